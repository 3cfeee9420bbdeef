import PyProof.Rows.All
import Wide.All
import OpenK.AllK
import Wide.FinOn
import PySem.Challenge.RW_dm0130_12
open PySem PySem.W PyProof.Rows PySem.Calls
set_option Elab.async false
set_option autoImplicit false
set_option maxRecDepth 100000
set_option maxHeartbeats 8000000
set_option linter.unusedVariables false
namespace Mine
section
inductive AV where
  | none
  | bool (b : Bool)
  | int (i : Int)
  | ref (a : Addr)

noncomputable def AV.rep : AV → Value → Prop
  | .none, v => v = .none
  | .bool b, v => v = .bool b
  | .int i, v => ∃ t, v = .int i t
  | .ref a, v => v = .ref a

noncomputable def Reps : List AV → List Value → Prop
  | [], [] => True
  | a :: l, v :: vs => a.rep v ∧ Reps l vs
  | _, _ => False

noncomputable def OReps : List (Option AV) → List (Option Value) → Prop
  | [], [] => True
  | none :: l, v :: vs => v = none ∧ OReps l vs
  | some a :: l, v :: vs => (∃ u, v = some u ∧ a.rep u) ∧ OReps l vs
  | _, _ => False

inductive AObj where
  | list (l : List AV)
  | flist (l : List AV)
  | tup (l : List AV)
  | dict (es : List (Int × AV)) (ep : Nat)
  | set (S : Int → Bool) (n : Nat)
  | inst (d : Addr)
  | sd (v0 v1 v2 v3 : Option AV)
  | rcd (d : Addr) (vs : List (Option AV))
  | iter (l : Addr) (i : Nat)
  | next (it : Addr)

noncomputable abbrev AH := Addr → Option AObj
noncomputable def upd (h : AH) (a : Addr) (o : AObj) : AH := fun b => if b = a then some o else h b

inductive Ex where
  | stop | cycle | value

structure St where
  loc : Nat → Option AV
  hp : AH

noncomputable def setv (l : Nat → Option AV) (i : Nat) (v : AV) : Nat → Option AV := fun j => if j = i then some v else l j

inductive Fl where
  | next | brk | cont | ret (v : AV)

noncomputable def Fl.rep : Fl → Flow → Prop
  | .next, f => f = .next
  | .brk, f => f = .brk
  | .cont, f => f = .cont
  | .ret v, f => ∃ u, f = .ret u ∧ v.rep u

noncomputable abbrev EP := (AV → St → Prop) → (Ex → St → Prop) → St → Prop
noncomputable abbrev TP := (Bool → St → Prop) → (Ex → St → Prop) → St → Prop
noncomputable abbrev LP := (List AV → St → Prop) → (Ex → St → Prop) → St → Prop
noncomputable abbrev SP := (Fl → St → Prop) → (Ex → St → Prop) → St → Prop

structure PC where
  prog : Program
  w : World
  K : Frag
  p : Program
  loose : List Str
  mean : ExcName → Option Value
  mg : Str → Option Value
  mb : Str → Option Value
  cS : Addr
  cN : Addr
  cE : Addr

noncomputable def dictEs (es : List (Int × AV)) (kvs : List (Int × Value)) : Prop := kvs.map (·.1) = es.map (·.1) ∧ Reps (es.map (·.2)) (kvs.map (·.2))

noncomputable def fieldIs (des : List DictEntry) (x : Str) : Option AV → Prop
  | none => getL x des = some none
  | some v => ∃ u, getL x des = some (some u) ∧ v.rep u

noncomputable def cnt : Option AV → Nat
  | none => 0
  | some _ => 1

noncomputable def AObj.at (P : PC) (h : Heap) (a : Addr) : AObj → Prop
  | .list l => ∃ vs n, h.get? a = some (listOf vs.toArray n) ∧ Reps l vs ∧ l.length ≤ 1000000
  | .flist l => ∃ vs, h.IsList a vs.toArray ∧ Reps l vs ∧ l.length ≤ 1000000
  | .tup l => ∃ vs n, h.get? a = some { cls := .type "tuple", data := .seq vs.toArray n } ∧ Reps l vs ∧ l.length ≤ 1000000
  | .dict es ep => ∃ kvs, h.DictAt (intKind P.prog P.w) a kvs ep ∧ dictEs es kvs ∧ (a == sysModules) = false ∧ es.length ≤ 1000000
  | .set S n => h.SetOf (intKind P.prog P.w) a S n
  | .inst d => h.get? a = some (instObj P.cS d)
  | .sd v0 v1 v2 v3 => ∃ des n, h.get? a = some (dictOf des n) ∧ des.any (·.refKey) = false ∧ des.length ≤ cnt v0 + cnt v1 + cnt v2 + cnt v3 ∧
      fieldIs des "_node2info" v0 ∧ fieldIs des "_ready_nodes" v1 ∧ fieldIs des "_npassedout" v2 ∧ fieldIs des "_nfinished" v3 ∧
      ∀ x : Str, x ≠ "_node2info" → x ≠ "_ready_nodes" → x ≠ "_npassedout" → x ≠ "_nfinished" → getL x des = some none
  | .rcd d vs => ∃ us : List (Option Value), h.get? a = some { instObj P.cN d with slots := us.toArray } ∧ OReps vs us
  | .iter l i => h.IsListIter a l i
  | .next it => h.get? a = some { cls := .type "method-wrapper", data := .fields #[.builtin "list_iterator.__next__", .ref it] }

noncomputable def AObj.frozen : AObj → Bool
  | .flist _ => true
  | _ => false

theorem AObj.at_some {P : PC} {h : Heap} {a : Addr} {o : AObj} (x : o.at P h a) : ∃ ob, h.get? a = some ob := by
  cases o with
  | list l => obtain ⟨_, _, e, _⟩ := x; exact ⟨_, e⟩
  | flist l => obtain ⟨_, ⟨o, e, _⟩, _⟩ := x; exact ⟨o, e⟩
  | tup l => obtain ⟨_, _, e, _⟩ := x; exact ⟨_, e⟩
  | dict es ep => obtain ⟨_, ⟨o, _, e, _⟩, _⟩ := x; exact ⟨o, e⟩
  | set S n => obtain ⟨o, _, _, _, e, _⟩ := x; exact ⟨o, e⟩
  | inst d => exact ⟨_, x⟩
  | sd v0 v1 v2 v3 => obtain ⟨_, _, e, _⟩ := x; exact ⟨_, e⟩
  | rcd d vs => obtain ⟨_, e, _⟩ := x; exact ⟨_, e⟩
  | iter l i => obtain ⟨o, e, _⟩ := x; exact ⟨o, e⟩
  | next it => exact ⟨_, x⟩

theorem AObj.at_of {P : PC} {h h' : Heap} {a : Addr} {o : AObj} (x : o.at P h a) (k : ∀ ob, h.get? a = some ob → h'.get? a = some ob) : o.at P h' a := by
  cases o with
  | list l => obtain ⟨vs, n, e, q⟩ := x; exact ⟨vs, n, k _ e, q⟩
  | flist l => obtain ⟨vs, ⟨o, e, r⟩, q⟩ := x; exact ⟨vs, ⟨o, k _ e, r⟩, q⟩
  | tup l => obtain ⟨vs, n, e, q⟩ := x; exact ⟨vs, n, k _ e, q⟩
  | dict es ep => obtain ⟨vs, ⟨o, a1, e, r⟩, q⟩ := x; exact ⟨vs, ⟨o, a1, k _ e, r⟩, q⟩
  | set S n => obtain ⟨o, a1, a2, a3, e, r⟩ := x; exact ⟨o, a1, a2, a3, k _ e, r⟩
  | inst d => exact k _ x
  | sd v0 v1 v2 v3 => obtain ⟨a1, a2, e, r⟩ := x; exact ⟨a1, a2, k _ e, r⟩
  | rcd d vs => obtain ⟨a1, e, r⟩ := x; exact ⟨a1, k _ e, r⟩
  | iter l i => obtain ⟨o, e, r⟩ := x; exact ⟨o, k _ e, r⟩
  | next it => exact k _ x

structure FX where
  A : Around
  kb : Heap
  fenv : Env
  outer : List Env
  outs : List (Addr × Obj)
  g : Heap
  L : Addr
  env : Env
  os : OsState

inductive VK where
  | loc | cell | cap
deriving DecidableEq

structure FD where
  vars : List (Str × VK)
  globs : List Str
  calm : Bool
  fn : Bool
  depth : Nat

structure FOk (P : PC) (D : FD) (F : FX) : Prop where
  fn : F.env.scope.kind = .function
  locals : F.env.locals = F.L
  globals : F.env.globals = mainGlobals
  builtins : F.env.builtins = builtinsNs
  loc : ∀ x, (x, VK.loc) ∈ D.vars → F.env.kindOf x = some .local
  cell : ∀ x, (x, VK.cell) ∈ D.vars → F.env.kindOf x = some .cell ∧ ∃ c, F.env.cells.lookup x = some c ∧ c ≠ F.L ∧ F.g.get? c = none ∧ c ∉ F.outs.map (·.1)
  cellInj : ∀ x y c, (x, VK.cell) ∈ D.vars → (y, VK.cell) ∈ D.vars → F.env.cells.lookup x = some c → F.env.cells.lookup y = some c → x = y
  cap : ∀ x, (x, VK.cap) ∈ D.vars → (F.env.kindOf x = some .cell ∨ (F.env.kindOf x = some .free ∧ (x == ("__classdict__" : Str)) = false)) ∧ ∃ c, F.env.cells.lookup x = some c
  glob : ∀ x ∈ D.globs, F.env.kindOf x = some .globalImplicit
  nd : (D.vars.map (·.1)).Nodup
  X : P.K.In F.kb
  T : Top P.p P.loose P.mean P.mg P.mb F.kb
  kbg : ∀ b o, F.kb.get? b = some o → F.g.get? b = some o
  frames : F.A.frames = some (F.fenv :: F.outer)
  frs : ∀ e ∈ F.fenv :: F.outer, e.scope.kind ≠ .module ∧ ∃ L, e.frame = some L ∧ (L = F.L ∨ ∃ o, (L, o) ∈ F.outs)
  outsOk : ∀ q ∈ F.outs, F.g.get? q.1 = none ∧ (∀ vs, q.2.data ≠ .fields vs) ∧ q.1 ≠ F.L
  Lg : F.g.get? F.L = none
  above : F.kb.objs.size ≤ F.L
  depth : F.A.depth + 20 * D.depth ≤ 900
  units : F.A.units + 100 * D.depth ≤ 9000
  hh : D.calm = true → F.A.handled = none
  fnOk : D.fn = true → F.fenv = F.env ∧ F.env.frame = some F.L

structure Rel (P : PC) (D : FD) (F : FX) (σ : St) (s : Shared) : Prop where
  ns : ∃ m, s.heap.Ns F.L m ∧ ∀ i x v, D.vars[i]? = some (x, .loc) → σ.loc i = some v → ∃ u, m x = some u ∧ v.rep u
  cell : ∀ i x, D.vars[i]? = some (x, .cell) → ∀ c, F.env.cells.lookup x = some c → σ.hp c = none ∧ ∃ u, s.heap.IsCell c u ∧ ∀ v, σ.loc i = some v → ∃ u', u = some u' ∧ v.rep u'
  cap : ∀ i x v, D.vars[i]? = some (x, .cap) → σ.loc i = some v → ∃ c u, F.env.cells.lookup x = some c ∧ F.g.IsCell c (some u) ∧ v.rep u
  keep : ∀ b o, F.g.get? b = some o → s.heap.get? b = some o
  outs : ∀ q ∈ F.outs, ∃ sl, s.heap.get? q.1 = some { q.2 with slots := sl }
  hp : ∀ a o, σ.hp a = some o → o.at P s.heap a ∧ (o.frozen = true → (F.kb.get? a).isSome = true) ∧ (o.frozen = false → F.g.get? a = none ∧ a ≠ F.L ∧ a ∉ F.outs.map (·.1))
  gens : s.gens = #[]
  os : s.os = F.os

/-- an address that neither the frame, the protected heap, the outer frames nor a cell of the frame bears -/
structure Free (D : FD) (F : FX) (a : Addr) : Prop where
  L : a ≠ F.L
  g : F.g.get? a = none
  outs : a ∉ F.outs.map (·.1)
  cells : ∀ x c, (x, VK.cell) ∈ D.vars → F.env.cells.lookup x = some c → c ≠ a

section
variable {P : PC} {D : FD} {F : FX} {σ : St} {s : Shared}

theorem FOk.kbL (O : FOk P D F) : F.kb.get? F.L = none := by
  cases q : F.kb.get? F.L with
  | none => rfl
  | some o => have := O.kbg _ _ q; rw [O.Lg] at this; cases this
theorem FOk.kbO (O : FOk P D F) {q : Addr × Obj} (hq : q ∈ F.outs) : F.kb.get? q.1 = none := by
  cases e : F.kb.get? q.1 with
  | none => rfl
  | some o => have := O.kbg _ _ e; rw [(O.outsOk q hq).1] at this; cases this
theorem Rel.free (R : Rel P D F σ s) {a : Addr} {o : AObj} (h : σ.hp a = some o) (hf : o.frozen = false) : Free D F a := by
  obtain ⟨_, _, h2⟩ := R.hp a o h
  obtain ⟨g, l, u⟩ := h2 hf
  refine ⟨l, g, u, fun x c hx hc e => ?_⟩
  obtain ⟨i, hi⟩ := List.mem_iff_getElem?.mp hx
  have := (R.cell i x hi c hc).1
  rw [e, h] at this; cases this

theorem Rel.fresh (R : Rel P D F σ s) {a : Addr} (h : s.heap.get? a = none) : Free D F a ∧ σ.hp a = none := by
  refine ⟨⟨fun e => ?_, ?_, fun hm => ?_, fun x c hx hc e => ?_⟩, ?_⟩
  · obtain ⟨m, ⟨o, _, _, ho, _⟩, _⟩ := R.ns
    rw [← e, h] at ho; cases ho
  · cases q : F.g.get? a with
    | none => rfl
    | some o => have := R.keep a o q; rw [h] at this; cases this
  · obtain ⟨q, hq, rfl⟩ := List.mem_map.mp hm
    obtain ⟨sl, e⟩ := R.outs q hq
    rw [h] at e; cases e
  · obtain ⟨i, hi⟩ := List.mem_iff_getElem?.mp hx
    obtain ⟨_, u, ⟨o, ho, _⟩, _⟩ := R.cell i x hi c hc
    rw [e, h] at ho; cases ho
  · cases q : σ.hp a with
    | none => rfl
    | some o => obtain ⟨ob, e⟩ := AObj.at_some (R.hp a o q).1; rw [h] at e; cases e

theorem heap_size_none (h : Heap) : h.get? h.objs.size = none := by
  cases q : h.get? h.objs.size with
  | none => rfl
  | some o => exact absurd (Heap.lt_size q) (Nat.lt_irrefl _)

theorem Rel.changeL (R : Rel P D F σ s) (O : FOk P D F) (ch : Addr → Prop) {h' : Heap} {t : Nat} {hp' : AH} (hch : ∀ a, ch a → Free D F a)
    (hns : ∀ m, s.heap.Ns F.L m → h'.Ns F.L m) (hk : ∀ b o, ¬ ch b → b ≠ F.L → s.heap.get? b = some o → h'.get? b = some o)
    (hnew : ∀ a o, hp' a = some o → (σ.hp a = some o ∧ ¬ ch a) ∨ (Free D F a ∧ o.frozen = false ∧ o.at P h' a)) :
    Rel P D F ⟨σ.loc, hp'⟩ { s with heap := h', toks := t } := by
  refine ⟨?_, ?_, R.cap, ?_, ?_, ?_, R.gens, R.os⟩
  · obtain ⟨m, hm, q⟩ := R.ns
    exact ⟨m, hns m hm, q⟩
  · intro i x hi c hc
    obtain ⟨h1, u, ⟨o, ho, hd⟩, q⟩ := R.cell i x hi c hc
    have hm : (x, VK.cell) ∈ D.vars := List.mem_of_getElem? hi
    obtain ⟨_, c', hc', hcL, _⟩ := O.cell x hm
    rw [hc] at hc'; cases hc'
    refine ⟨?_, u, ⟨o, hk _ _ (fun e => (hch _ e).cells x c hm hc rfl) hcL ho, hd⟩, q⟩
    show hp' c = none
    cases e : hp' c with
    | none => rfl
    | some o' =>
      rcases hnew c o' e with ⟨e1, _⟩ | ⟨fr, _⟩
      · rw [h1] at e1; cases e1
      · exact absurd rfl (fr.cells x c hm hc)
  · intro b o e
    exact hk _ _ (fun c => by have := (hch _ c).g; rw [e] at this; cases this) (fun q => by rw [q, O.Lg] at e; cases e) (R.keep b o e)
  · intro q hq
    obtain ⟨sl, e⟩ := R.outs q hq
    exact ⟨sl, hk _ _ (fun c => (hch _ c).outs (List.mem_map_of_mem hq)) (O.outsOk q hq).2.2 e⟩
  · intro a o e
    rcases hnew a o e with ⟨e1, nc⟩ | ⟨fr, h1, h2⟩
    · obtain ⟨x, y, z⟩ := R.hp a o e1
      refine ⟨AObj.at_of x (fun ob eo => hk _ _ nc (fun q => ?_) eo), y, z⟩
      cases hf : o.frozen with
      | false => exact (z hf).2.1 q
      | true => have := y hf; rw [q, O.kbL] at this; cases this
    · exact ⟨h2, ⟨(fun z => by rw [h1] at z; cases z), fun _ => ⟨fr.g, fr.L, fr.outs⟩⟩⟩

theorem Rel.change (R : Rel P D F σ s) (ch : Addr → Prop) {h' : Heap} {t : Nat} {hp' : AH} (hch : ∀ a, ch a → Free D F a)
    (hk : ∀ b o, ¬ ch b → s.heap.get? b = some o → h'.get? b = some o)
    (hnew : ∀ a o, hp' a = some o → (σ.hp a = some o ∧ ¬ ch a) ∨ (Free D F a ∧ o.frozen = false ∧ o.at P h' a)) :
    Rel P D F ⟨σ.loc, hp'⟩ { s with heap := h', toks := t } := by
  refine ⟨?_, ?_, R.cap, ?_, ?_, ?_, R.gens, R.os⟩
  · obtain ⟨m, ⟨o, es, ep, ho, r⟩, q⟩ := R.ns
    exact ⟨m, ⟨o, es, ep, hk _ _ (fun c => (hch _ c).L rfl) ho, r⟩, q⟩
  · intro i x hi c hc
    obtain ⟨h1, u, ⟨o, ho, hd⟩, q⟩ := R.cell i x hi c hc
    have hm : (x, VK.cell) ∈ D.vars := List.mem_of_getElem? hi
    refine ⟨?_, u, ⟨o, hk _ _ (fun e => (hch _ e).cells x c hm hc rfl) ho, hd⟩, q⟩
    show hp' c = none
    cases e : hp' c with
    | none => rfl
    | some o' =>
      rcases hnew c o' e with ⟨e1, _⟩ | ⟨fr, _⟩
      · rw [h1] at e1; cases e1
      · exact absurd rfl (fr.cells x c hm hc)
  · intro b o e
    exact hk _ _ (fun c => by have := (hch _ c).g; rw [e] at this; cases this) (R.keep b o e)
  · intro q hq
    obtain ⟨sl, e⟩ := R.outs q hq
    exact ⟨sl, hk _ _ (fun c => (hch _ c).outs (List.mem_map_of_mem hq)) e⟩
  · intro a o e
    rcases hnew a o e with ⟨e1, nc⟩ | ⟨fr, h1, h2⟩
    · obtain ⟨x, y⟩ := R.hp a o e1
      exact ⟨AObj.at_of x (fun ob eo => hk _ _ nc eo), y⟩
    · exact ⟨h2, ⟨(fun z => by rw [h1] at z; cases z), fun _ => ⟨fr.g, fr.L, fr.outs⟩⟩⟩

/-- every object but the frame's -/
noncomputable def allBut (L : Addr) (h : Heap) : List (Addr × Obj) := (List.range h.objs.size).filterMap fun a => if a = L then none else (h.get? a).map (a, ·)
noncomputable def noHeap : Heap := { objs := #[], life := {} }
theorem noHeap_get (a : Addr) : noHeap.get? a = none := by unfold noHeap Heap.get?; simp
theorem news_all (L : Addr) (h : Heap) : News noHeap L h (allBut L h) := fun p hp => by
  obtain ⟨a, ha, e⟩ := List.mem_filterMap.mp hp
  split at e
  · cases e
  · rename_i ne
    obtain ⟨o, ho, e2⟩ := Option.map_eq_some_iff.mp e
    subst e2
    exact ⟨ho, ne, noHeap_get _⟩
theorem mem_all {L : Addr} {h : Heap} {b : Addr} {o : Obj} (ne : b ≠ L) (e : h.get? b = some o) : (b, o) ∈ allBut L h :=
  List.mem_filterMap.mpr ⟨b, List.mem_range.mpr (Heap.lt_size e), by rw [if_neg ne, e]; rfl⟩
theorem Rel.fr (R : Rel P D F σ s) : ∃ m, Fr noHeap F.L s.heap m ∧ s.heap.Ns F.L m := by
  obtain ⟨m, hm, _⟩ := R.ns
  exact ⟨m, ⟨hm, (fun b o e => by rw [noHeap_get] at e; cases e), Nat.zero_le _⟩, hm⟩
theorem Rel.frG (R : Rel P D F σ s) (O : FOk P D F) : ∃ m, Fr F.kb F.L s.heap m := by
  obtain ⟨m, hm, _⟩ := R.ns
  exact ⟨m, hm, fun b o e => R.keep b o (O.kbg b o e), O.above⟩
theorem ns_unique {h : Heap} {L : Addr} {m m' : Str → Option Value} (a : h.Ns L m) (b : h.Ns L m') : m = m' := by
  obtain ⟨o, es, ep, h1, h2, _, h3⟩ := a
  obtain ⟨o', es', ep', h1', h2', _, h3'⟩ := b
  rw [h1] at h1'; cases h1'
  rw [h2] at h2'; cases h2'
  funext x
  exact (h3 x).symm.trans (h3' x)

/-- behind a rule that hands on every object and one new one -/
theorem Rel.pushed (R : Rel P D F σ s) (O : FOk P D F) {m : Str → Option Value} {h' : Heap} {ob : Obj} {o : AObj} {t : Nat} (hm : s.heap.Ns F.L m) (F' : Fr noHeap F.L h' m) (N' : News noHeap F.L h' ((s.heap.objs.size, ob) :: allBut F.L s.heap)) (hf : o.frozen = false)
    (ho : h'.get? s.heap.objs.size = some ob → o.at P h' s.heap.objs.size) : Rel P D F ⟨σ.loc, upd σ.hp s.heap.objs.size o⟩ { s with heap := h', toks := t } := by
  refine R.changeL O (fun _ => False) (fun _ x => x.elim) (fun m' hm' => ns_unique hm' hm ▸ F'.ns) (fun b o' _ ne e => (N' _ (List.mem_cons_of_mem _ (mem_all ne e))).1) fun a o' e => ?_
  unfold upd at e
  split at e
  · rename_i h; subst h; cases e
    exact .inr ⟨(R.fresh (heap_size_none _)).1, hf, ho (N' _ (List.mem_cons_self ..)).1⟩
  · exact .inl ⟨e, id⟩

theorem Rel.ext (R : Rel P D F σ s) {h' : Heap} {t : Nat} (hk : ∀ b o, s.heap.get? b = some o → h'.get? b = some o) : Rel P D F σ { s with heap := h', toks := t } :=
  R.change (fun _ => False) (fun _ x => x.elim) (fun b o _ e => hk b o e) fun _ _ e => .inl ⟨e, id⟩

theorem Rel.toks (R : Rel P D F σ s) {t : Nat} : Rel P D F σ { s with toks := t } := R.ext fun _ _ e => e

theorem Rel.push (R : Rel P D F σ s) (ob : Obj) (o : AObj) (hf : o.frozen = false) (ho : o.at P (s.heap.push ob) s.heap.objs.size) :
    Rel P D F ⟨σ.loc, upd σ.hp s.heap.objs.size o⟩ { s with heap := s.heap.push ob } :=
  R.change (t := s.toks) (fun _ => False) (fun _ x => x.elim) (fun _ _ _ e => Heap.get?_push_of_some _ e) fun a o' e => by
    unfold upd at e
    split at e
    · rename_i h; subst h; cases e
      exact .inr ⟨(R.fresh (heap_size_none _)).1, hf, ho⟩
    · exact .inl ⟨e, id⟩

theorem Rel.set (R : Rel P D F σ s) {a : Addr} {o o' : AObj} {h' : Heap} {t : Nat} (h : σ.hp a = some o) (hf : o.frozen = false) (hs : Heap.SameBut a s.heap h') (hf' : o'.frozen = false) (ho : o'.at P h' a) :
    Rel P D F ⟨σ.loc, upd σ.hp a o'⟩ { s with heap := h', toks := t } :=
  R.change (fun b => b = a) (fun b e => e ▸ R.free h hf) (fun b ob ne e => (hs.2 b ne).trans e) fun b o₂ e => by
    unfold upd at e
    split at e
    · rename_i q; subst q; cases e; exact .inr ⟨R.free h hf, hf', ho⟩
    · rename_i q; exact .inl ⟨e, q⟩

theorem Rel.setLoc (R : Rel P D F σ s) {i : Nat} {x : Str} {v : AV} {u : Value} {m : Str → Option Value} {h' : Heap} {t : Nat} (O : FOk P D F) (hi : D.vars[i]? = some (x, .loc)) (hv : v.rep u)
    (hml : ∀ i x v, D.vars[i]? = some (x, .loc) → σ.loc i = some v → ∃ u, m x = some u ∧ v.rep u)
    (hn : h'.Ns F.L (fun y => if y = x then some u else m y)) (hs : Heap.SameBut F.L s.heap h') :
    Rel P D F ⟨setv σ.loc i v, σ.hp⟩ { s with heap := h', toks := t } := by
  have key : ∀ j y k, D.vars[j]? = some (y, k) → j ≠ i → y ≠ x := by
    intro j y k hj ne e
    subst e
    have hnd := O.nd
    have h1 : (D.vars.map (·.1))[j]? = some y := by simp [hj]
    have h2 : (D.vars.map (·.1))[i]? = some y := by simp [hi]
    obtain ⟨lj, _⟩ := List.getElem?_eq_some_iff.mp h1
    obtain ⟨li, _⟩ := List.getElem?_eq_some_iff.mp h2
    exact ne ((List.getElem?_inj lj hnd).mp (h1.trans h2.symm))
  refine ⟨⟨_, hn, fun j y w hj hw => ?_⟩, fun j y hj c hc => ?_, fun j y w hj hw => ?_, fun b o e => ?_, fun q hq => ?_, fun a o e => ?_, R.gens, R.os⟩
  · by_cases e : j = i
    · subst e
      rw [hi] at hj; cases hj
      simp only [setv, if_true] at hw
      cases hw
      exact ⟨u, by simp, hv⟩
    · have ney := key j y _ hj e
      simp only [setv, if_neg e] at hw
      obtain ⟨u', h1, h2⟩ := hml j y w hj hw
      exact ⟨u', by simp [ney, h1], h2⟩
  · obtain ⟨h1, u', ⟨o, ho, hd⟩, q⟩ := R.cell j y hj c hc
    have ne : j ≠ i := fun e => by subst e; rw [hi] at hj; cases hj
    obtain ⟨_, c', hc', hne, _⟩ := O.cell y (List.mem_of_getElem? hj)
    rw [hc] at hc'; cases hc'
    exact ⟨h1, u', ⟨o, (hs.2 _ hne).trans ho, hd⟩, by simpa only [setv, if_neg ne] using q⟩
  · have ne : j ≠ i := fun e => by subst e; rw [hi] at hj; cases hj
    simp only [setv, if_neg ne] at hw
    exact R.cap j y w hj hw
  · exact (hs.2 b (fun q => by rw [q, O.Lg] at e; cases e)).trans (R.keep b o e)
  · obtain ⟨sl, e⟩ := R.outs q hq
    exact ⟨sl, (hs.2 _ (O.outsOk q hq).2.2).trans e⟩
  · obtain ⟨x1, x2, x3⟩ := R.hp a o e
    refine ⟨AObj.at_of x1 (fun ob eo => (hs.2 _ (fun q => ?_)).trans eo), x2, x3⟩
    cases hf : o.frozen with
    | false => exact (x3 hf).2.1 q
    | true => have := x2 hf; rw [q, O.kbL] at this; cases this

theorem Rel.setCell (R : Rel P D F σ s) {i : Nat} {x : Str} {v : AV} {u : Value} {c : Addr} {h' : Heap} (O : FOk P D F) (hi : D.vars[i]? = some (x, .cell)) (hv : v.rep u)
    (hc : F.env.cells.lookup x = some c) (hn : h'.IsCell c (some u)) (hs : Heap.SameBut c s.heap h') :
    Rel P D F ⟨setv σ.loc i v, σ.hp⟩ { s with heap := h' } := by
  obtain ⟨_, c', hc', hcL, hcg, hco⟩ := O.cell x (List.mem_of_getElem? hi)
  rw [hc] at hc'; cases hc'
  have hcp := (R.cell i x hi c hc).1
  refine ⟨?_, fun j y hj c' hc' => ?_, fun j y w hj hw => ?_, fun b o e => ?_, fun q hq => ?_, fun a o e => ?_, R.gens, R.os⟩
  · obtain ⟨m, ⟨o, es, ep, ho, r⟩, q⟩ := R.ns
    refine ⟨m, ⟨o, es, ep, (hs.2 _ (Ne.symm hcL)).trans ho, r⟩, fun j y w hj hw => ?_⟩
    have ne : j ≠ i := fun e => by subst e; rw [hi] at hj; cases hj
    simp only [setv, if_neg ne] at hw
    exact q j y w hj hw
  · obtain ⟨h1, u', ⟨o, ho, hd⟩, q⟩ := R.cell j y hj c' hc'
    by_cases e : j = i
    · subst e
      rw [hi] at hj; cases hj
      rw [hc] at hc'; cases hc'
      exact ⟨h1, some u, hn, fun w hw => by simp only [setv, if_true] at hw; cases hw; exact ⟨u, rfl, hv⟩⟩
    · have nc : c' ≠ c := fun ec => by
        subst ec
        have exy := O.cellInj x y c' (List.mem_of_getElem? hi) (List.mem_of_getElem? hj) hc hc'
        subst exy
        have h1 : (D.vars.map (·.1))[j]? = some x := by simp [hj]
        have h2 : (D.vars.map (·.1))[i]? = some x := by simp [hi]
        obtain ⟨lj, _⟩ := List.getElem?_eq_some_iff.mp h1
        exact e ((List.getElem?_inj lj O.nd).mp (h1.trans h2.symm))
      exact ⟨h1, u', ⟨o, (hs.2 _ nc).trans ho, hd⟩, by simpa only [setv, if_neg e] using q⟩
  · have ne : j ≠ i := fun e => by subst e; rw [hi] at hj; cases hj
    simp only [setv, if_neg ne] at hw
    exact R.cap j y w hj hw
  · exact (hs.2 b (fun q => by rw [q, hcg] at e; cases e)).trans (R.keep b o e)
  · obtain ⟨sl, e⟩ := R.outs q hq
    exact ⟨sl, (hs.2 _ (fun q' => hco (q' ▸ List.mem_map_of_mem hq))).trans e⟩
  · obtain ⟨x1, x2, x3⟩ := R.hp a o e
    exact ⟨AObj.at_of x1 (fun ob eo => (hs.2 _ (fun q => by rw [q, hcp] at e; cases e)).trans eo), x2, x3⟩


theorem Reps.nil_inv {us : List Value} (h : Reps [] us) : us = [] := by
  cases us with
  | nil => rfl
  | cons u us => exact h.elim
theorem Reps.cons_inv {a : AV} {l : List AV} {us : List Value} (h : Reps (a :: l) us) : ∃ u vs, us = u :: vs ∧ a.rep u ∧ Reps l vs := by
  cases us with
  | nil => exact h.elim
  | cons u us => exact ⟨u, us, rfl, h.1, h.2⟩
theorem Reps.one {a : AV} {us : List Value} (h : Reps [a] us) : ∃ u, us = [u] ∧ a.rep u := by
  obtain ⟨u, vs, rfl, h1, h2⟩ := h.cons_inv
  cases h2.nil_inv
  exact ⟨u, rfl, h1⟩
theorem Reps.two {a b : AV} {us : List Value} (h : Reps [a, b] us) : ∃ u v, us = [u, v] ∧ a.rep u ∧ b.rep v := by
  obtain ⟨u, vs, rfl, h1, h2⟩ := h.cons_inv
  obtain ⟨v, rfl, h3⟩ := h2.one
  exact ⟨u, v, rfl, h1, h3⟩
theorem Reps.length : ∀ {l : List AV} {vs : List Value}, Reps l vs → l.length = vs.length
  | [], [], _ => rfl
  | _ :: _, _ :: _, ⟨_, h⟩ => congrArg (· + 1) (Reps.length h)
  | [], _ :: _, h => h.elim
  | _ :: _, [], h => h.elim
theorem Reps.append : ∀ {l l' : List AV} {vs vs' : List Value}, Reps l vs → Reps l' vs' → Reps (l ++ l') (vs ++ vs')
  | [], _, [], _, _, h' => h'
  | _ :: _, _, _ :: _, _, ⟨h, r⟩, h' => ⟨h, Reps.append r h'⟩
  | [], _, _ :: _, _, h, _ => h.elim
  | _ :: _, _, [], _, h, _ => h.elim
theorem Reps.get : ∀ {l : List AV} {vs : List Value} (i : Nat) {a : AV}, Reps l vs → l[i]? = some a → ∃ v, vs[i]? = some v ∧ a.rep v
  | [], [], _, _, _, h => by simp at h
  | a :: l, v :: vs, 0, b, ⟨h, _⟩, e => by simp at e; subst e; exact ⟨v, rfl, h⟩
  | a :: l, v :: vs, i + 1, b, ⟨_, r⟩, e => by simpa using Reps.get i r (by simpa using e)
  | [], _ :: _, _, _, h, _ => h.elim
  | _ :: _, [], _, _, h, _ => h.elim
theorem Reps.take : ∀ {l : List AV} {vs : List Value} (n : Nat), Reps l vs → Reps (l.take n) (vs.take n)
  | _, _, 0, _ => trivial
  | [], [], _ + 1, _ => trivial
  | _ :: _, _ :: _, n + 1, ⟨h, r⟩ => ⟨h, Reps.take n r⟩
  | [], _ :: _, _, h => h.elim
  | _ :: _, [], _, h => h.elim
theorem Reps.drop : ∀ {l : List AV} {vs : List Value} (n : Nat), Reps l vs → Reps (l.drop n) (vs.drop n)
  | _, _, 0, h => h
  | [], [], _ + 1, _ => trivial
  | _ :: _, _ :: _, n + 1, ⟨_, r⟩ => Reps.drop n r
  | [], _ :: _, _, h => h.elim
  | _ :: _, [], _, h => h.elim
theorem Reps.set : ∀ {l : List AV} {vs : List Value} (n : Nat) {a : AV} {v : Value}, Reps l vs → a.rep v → Reps (l.set n a) (vs.set n v)
  | [], [], _, _, _, _, _ => trivial
  | _ :: _, _ :: _, 0, _, _, ⟨_, r⟩, q => ⟨q, r⟩
  | _ :: _, _ :: _, n + 1, _, _, ⟨h, r⟩, q => ⟨h, Reps.set n r q⟩
  | [], _ :: _, _, _, _, h, _ => h.elim
  | _ :: _, [], _, _, _, h, _ => h.elim
theorem Reps.eraseIdx : ∀ {l : List AV} {vs : List Value} (n : Nat), Reps l vs → Reps (l.eraseIdx n) (vs.eraseIdx n)
  | [], [], _, _ => trivial
  | _ :: _, _ :: _, 0, ⟨_, r⟩ => r
  | _ :: _, _ :: _, n + 1, ⟨h, r⟩ => ⟨h, Reps.eraseIdx n r⟩
  | [], _ :: _, _, h => h.elim
  | _ :: _, [], _, h => h.elim

noncomputable def St.lst (σ : St) (a : Addr) : Option (List AV) := match σ.hp a with
  | some (.list l) => some l
  | some (.flist l) => some l
  | _ => none

theorem Rel.isList (R : Rel P D F σ s) {a : Addr} {l : List AV} (h : σ.lst a = some l) : ∃ vs, s.heap.IsList a vs.toArray ∧ Reps l vs ∧ l.length ≤ 1000000 := by
  unfold St.lst at h
  split at h
  · rename_i l' e
    cases h
    obtain ⟨vs, n, e', r⟩ := (R.hp a _ e).1
    exact ⟨vs, ⟨_, e', rfl, n, rfl⟩, r⟩
  · rename_i l' e
    cases h
    obtain ⟨vs, e', r⟩ := (R.hp a _ e).1
    exact ⟨vs, e', r⟩
  · cases h

theorem Rel.plain (R : Rel P D F σ s) {a : Addr} {l : List AV} (h : σ.hp a = some (.list l)) : ∃ vs n, s.heap.get? a = some (listOf vs.toArray n) ∧ Reps l vs ∧ l.length ≤ 1000000 := (R.hp a _ h).1
theorem Rel.tup (R : Rel P D F σ s) {a : Addr} {l : List AV} (h : σ.hp a = some (.tup l)) : ∃ vs n, s.heap.get? a = some { cls := .type "tuple", data := .seq vs.toArray n } ∧ Reps l vs ∧ l.length ≤ 1000000 := (R.hp a _ h).1

theorem Rel.setList (R : Rel P D F σ s) {a : Addr} {l l' : List AV} {vs vs' : List Value} {n t : Nat} {f : Array Value → Array Value} (h : σ.hp a = some (.list l)) (hg : s.heap.get? a = some (listOf vs.toArray n))
    (hf : f vs.toArray = vs'.toArray) (hr : Reps l' vs') (hz : l'.length ≤ 1000000) : Rel P D F ⟨σ.loc, upd σ.hp a (.list l')⟩ { s with heap := s.heap.update a (Obj.mapSeq f), toks := t } := by
  refine R.set h rfl (Heap.SameBut.update ..) rfl ?_
  refine ⟨vs', if ((f vs.toArray).size == vs.toArray.size) = true then n else n + 1, (Heap.get?_update_self (Obj.mapSeq f) hg rfl).trans ?_, hr, hz⟩
  simp only [Obj.mapSeq, W.listOf, hf]
end
end
section
noncomputable def exCls (P : PC) : Ex → Value
  | .stop => .type "StopIteration"
  | .cycle => .ref P.cE
  | .value => .type "ValueError"

noncomputable def Unt (D : FD) (F : FX) (σ : St) (a : Addr) : Prop := Free D F a ∧ σ.hp a = none

/-- the traceback's state: none yet, or one whose flight is told by `fl` -/
noncomputable def Traced (D : FD) (F : FX) (σ : St) (h : Heap) (a : Addr) (vs : Array Value) : Prop :=
  vs[1]? = some .none ∨ ∃ T oT ts, vs[1]? = some (.ref T) ∧ T ≠ a ∧ Unt D F σ T ∧ h.get? T = some oT ∧ oT.data = .fields ts ∧ (ts[3]? = some .none ∨ ts[3]? = some (rawInt F.L))

structure XAt (P : PC) (D : FD) (F : FX) (ex : Ex) (σ : St) (e : Value) (s : Shared) : Prop where
  rel : Rel P D F σ s
  at_ : ∃ a oe vs a0, e = .ref a ∧ Unt D F σ a ∧ s.heap.get? a = some oe ∧ oe.cls = exCls P ex ∧ oe.data = .fields vs ∧ vs[0]? = some a0 ∧ Traced D F σ s.heap a vs

noncomputable def RE (P : PC) (D : FD) (F : FX) (Q : AV → St → Prop) (v : Value) (s : Shared) : Prop := ∃ av σ, av.rep v ∧ Rel P D F σ s ∧ Q av σ
noncomputable def RB (P : PC) (D : FD) (F : FX) (Q : Bool → St → Prop) (b : Bool) (s : Shared) : Prop := ∃ σ, Rel P D F σ s ∧ Q b σ
noncomputable def RL (P : PC) (D : FD) (F : FX) (Q : List AV → St → Prop) (vs : List Value) (s : Shared) : Prop := ∃ avs σ, Reps avs vs ∧ Rel P D F σ s ∧ Q avs σ
noncomputable def RF (P : PC) (D : FD) (F : FX) (Q : Fl → St → Prop) (f : Flow) (s : Shared) : Prop := ∃ fl σ, fl.rep f ∧ Rel P D F σ s ∧ Q fl σ
noncomputable def RX (P : PC) (D : FD) (F : FX) (E : Ex → St → Prop) (e : Value) (s : Shared) : Prop := ∃ ex σ, XAt P D F ex σ e s ∧ E ex σ

/-- the tree's answer is told by the predicate transformer p -/
noncomputable def SimE (P : PC) (D : FD) (e : Expr) (p : EP) : Prop := ∀ F, FOk P D F → ∀ σ s Q E, Rel P D F σ s → p Q E σ → wpAny (model P.prog P.w) F.A (eval e F.env) (RE P D F Q) (RX P D F E) s
noncomputable def SimT (P : PC) (D : FD) (e : Expr) (p : TP) : Prop := ∀ F, FOk P D F → ∀ σ s Q E, Rel P D F σ s → p Q E σ → wpAny (model P.prog P.w) F.A (isTrue e F.env (eval e F.env)) (RB P D F Q) (RX P D F E) s
noncomputable def SimL (P : PC) (D : FD) (es : List Expr) (p : LP) : Prop := ∀ F, FOk P D F → ∀ pos σ s Q E, Rel P D F σ s → p Q E σ → wpAny (model P.prog P.w) F.A (spliced (backTo pos (starEach es F.env))) (RL P D F Q) (RX P D F E) s
noncomputable def SimS (P : PC) (D : FD) (st : Stmt) (p : SP) : Prop := ∀ F, FOk P D F → ∀ σ s Q E, Rel P D F σ s → p Q E σ → wpAny (model P.prog P.w) F.A (exec st F.env) (RF P D F Q) (RX P D F E) s
noncomputable def SimSs (P : PC) (D : FD) (st : List Stmt) (p : SP) : Prop := ∀ F, FOk P D F → ∀ σ s Q E, Rel P D F σ s → p Q E σ → wpAny (model P.prog P.w) F.A (execs st F.env) (RF P D F Q) (RX P D F E) s

/-- the same answers for a step upon values -/
noncomputable def OpSim (P : PC) (D : FD) (F : FX) (t : Sem Value) (p : EP) : Prop := ∀ σ s Q E, Rel P D F σ s → p Q E σ → wpAny (model P.prog P.w) F.A t (RE P D F Q) (RX P D F E) s

-- the transformers
noncomputable def pName (i : Nat) : EP := fun Q _ σ => ∃ v, σ.loc i = some v ∧ Q v σ
noncomputable def pInt (n : Int) : EP := fun Q _ σ => Q (.int n) σ
noncomputable def pBool (b : Bool) : EP := fun Q _ σ => Q (.bool b) σ
noncomputable def pNone : EP := fun Q _ σ => Q .none σ
noncomputable def pBin (op : AV → AV → EP) (l r : EP) : EP := fun Q E σ => l (fun a σ₁ => r (fun b σ₂ => op a b Q E σ₂) E σ₁) E σ
noncomputable def pUn (op : AV → EP) (l : EP) : EP := fun Q E σ => l (fun a σ₁ => op a Q E σ₁) E σ

section
variable {P : PC} {D : FD}


theorem sim_cint {n : Int} {k pos} : SimE P D (.Constant (.int n) k pos) (pInt n) :=
  fun _ _ σ _ _ _ R h => wpAny_Constant_int ⟨.int n, σ, ⟨_, rfl⟩, R.toks, h⟩
theorem sim_cbool {b : Bool} {k pos} : SimE P D (.Constant (.bool b) k pos) (pBool b) :=
  fun _ _ σ _ _ _ R h => wpAny_Constant_bool ⟨.bool b, σ, rfl, R, h⟩
theorem sim_cnone {k pos} : SimE P D (.Constant .none k pos) pNone :=
  fun _ _ σ _ _ _ R h => wpAny_Constant_none ⟨.none, σ, rfl, R, h⟩

theorem sim_name {x : Str} {pos : Pos} {i : Nat} {k : VK} (hi : D.vars[i]? = some (x, k)) (hd : (x == ("__debug__" : Str)) = false := by decide) : SimE P D (.Name x pos) (pName i) := by
  rintro F O σ s Q E R ⟨v, hv, h⟩
  have hm := List.mem_of_getElem? hi
  refine wpAny_Name ?_ hd
  cases k with
  | loc =>
    obtain ⟨m, hn, hl⟩ := R.ns
    obtain ⟨u, hu, hr⟩ := hl i x v hi hv
    exact wpAny_loadName_local O.fn (O.loc x hm) (by rw [O.locals]; exact hn) hu ⟨v, σ, hr, R, h⟩
  | cell =>
    obtain ⟨hk, c, hc, _⟩ := O.cell x hm
    obtain ⟨_, u, hu, hq⟩ := R.cell i x hi c hc
    obtain ⟨u', rfl, hr⟩ := hq v hv
    exact wpAny_loadName_cell O.fn hk hc hu ⟨v, σ, hr, R, h⟩
  | cap =>
    obtain ⟨c, u, hc, ⟨o, ho, hd⟩, hr⟩ := R.cap i x v hi hv
    have hcell : s.heap.IsCell c (some u) := ⟨o, R.keep c o ho, hd⟩
    rcases (O.cap x hm).1 with hk | ⟨hk, hcd⟩
    · exact wpAny_loadName_cell O.fn hk hc hcell ⟨v, σ, hr, R, h⟩
    · exact wpAny_loadName_free O.fn hk hc hcell ⟨v, σ, hr, R, h⟩ hcd

theorem sim_bin {l r : Expr} {op : Operator} {pos : Pos} {pl pr : EP} {f : AV → AV → EP} (hl : SimE P D l pl) (hr : SimE P D r pr)
    (ho : ∀ F, FOk P D F → ∀ a b u v, a.rep u → b.rep v → OpSim P D F (binaryOp op u v) (f a b)) : SimE P D (.BinOp l op r pos) (pBin f pl pr) := by
  intro F O σ s Q E R h
  refine wpAny_BinOp (wpAny_mono (hl F O σ s _ E R h) ?_ fun _ _ x => x)
  rintro u s₁ ⟨a, σ₁, ha, R₁, h₁⟩
  refine wpAny_mono (hr F O σ₁ s₁ _ E R₁ h₁) ?_ fun _ _ x => x
  rintro v s₂ ⟨b, σ₂, hb, R₂, h₂⟩
  exact ho F O a b u v ha hb σ₂ s₂ Q E R₂ h₂

theorem sim_un {l : Expr} {op : UnaryOp} {pos : Pos} {pl : EP} {f : AV → EP} (hl : SimE P D l pl)
    (ho : ∀ F, FOk P D F → ∀ a u, a.rep u → OpSim P D F (unaryOp op u) (f a)) : SimE P D (.UnaryOp op l pos) (pUn f pl) := by
  intro F O σ s Q E R h
  refine wpAny_UnaryOp (wpAny_mono (hl F O σ s _ E R h) ?_ fun _ _ x => x)
  rintro u s₁ ⟨a, σ₁, ha, R₁, h₁⟩
  exact ho F O a u ha σ₁ s₁ Q E R₁ h₁

theorem sim_cmp {l r : Expr} {op : CmpOp} {pos : Pos} {pl pr : EP} {f : AV → AV → EP} (hl : SimE P D l pl) (hr : SimE P D r pr)
    (ho : ∀ F, FOk P D F → ∀ a b u v, a.rep u → b.rep v → OpSim P D F (compareOp op u v) (f a b)) (hm : behindInMarks op r = false := by with_unfolding_all rfl) : SimE P D (.Compare l [op] [r] pos) (pBin f pl pr) := by
  intro F O σ s Q E R h
  refine wpAny_Compare1 (wpAny_mono (hl F O σ s _ E R h) ?_ fun _ _ x => x) hm
  rintro u s₁ ⟨a, σ₁, ha, R₁, h₁⟩
  refine wpAny_mono (hr F O σ₁ s₁ _ E R₁ h₁) ?_ fun _ _ x => x
  rintro v s₂ ⟨b, σ₂, hb, R₂, h₂⟩
  exact ho F O a b u v ha hb σ₂ s₂ Q E R₂ h₂


theorem RE.int {F : FX} {Q : AV → St → Prop} {i j : Int} {t : Tok} {s : Shared} {σ : St} (h2 : Rel P D F σ s) (h3 : Q (.int j) σ) (e : i = j := by rfl) : RE P D F Q (.int i t) s := ⟨.int j, σ, ⟨t, by rw [e]⟩, h2, h3⟩
theorem RE.ref {F : FX} {Q : AV → St → Prop} {a : Addr} {s : Shared} {σ : St} (h2 : Rel P D F σ s) (h3 : Q (.ref a) σ) : RE P D F Q (.ref a) s := ⟨.ref a, σ, rfl, h2, h3⟩
theorem RE.bool {F : FX} {Q : AV → St → Prop} {b c : Bool} {s : Shared} {σ : St} (h2 : Rel P D F σ s) (h3 : Q (.bool c) σ) (e : b = c := by rfl) : RE P D F Q (.bool b) s := ⟨.bool c, σ, by rw [e]; rfl, h2, h3⟩
theorem RE.none {F : FX} {Q : AV → St → Prop} {s : Shared} {σ : St} (h2 : Rel P D F σ s) (h3 : Q .none σ) : RE P D F Q .none s := ⟨.none, σ, rfl, h2, h3⟩

-- operations upon ints
noncomputable def opAdd : AV → AV → EP
  | .int x, .int y => fun Q _ σ => Q (.int (x + y)) σ
  | .ref l, .ref r => fun Q _ σ => ∃ xs ys, σ.lst l = some xs ∧ σ.lst r = some ys ∧ xs.length + ys.length ≤ 1000000 ∧ ∀ a, σ.hp a = none → Q (.ref a) ⟨σ.loc, upd σ.hp a (.list (xs ++ ys))⟩
  | _, _ => fun _ _ _ => False
noncomputable def opSub : AV → AV → EP
  | .int x, .int y => fun Q _ σ => Q (.int (x - y)) σ
  | _, _ => fun _ _ _ => False
noncomputable def opMul : AV → AV → EP
  | .int x, .int y => fun Q _ σ => (x.natAbs < 2 ^ 60 ∨ y.natAbs < 2 ^ 60) ∧ Q (.int (x * y)) σ
  | .ref l, .int n => fun Q _ σ => ∃ xs, σ.hp l = some (.list xs) ∧ xs.length * n.toNat ≤ 1000000 ∧ -1000000 ≤ n ∧ n ≤ 1000000 ∧ ∀ a, σ.hp a = none → Q (.ref a) ⟨σ.loc, upd σ.hp a (.list (List.replicate n.toNat xs).flatten)⟩
  | _, _ => fun _ _ _ => False
noncomputable def opDiv : AV → AV → EP
  | .int x, .int y => fun Q _ σ => 0 < y ∧ y < 1073741824 ∧ Q (.int (x / y)) σ
  | _, _ => fun _ _ _ => False
noncomputable def opMod : AV → AV → EP
  | .int x, .int y => fun Q _ σ => 0 < y ∧ Q (.int (x % y)) σ
  | _, _ => fun _ _ _ => False
noncomputable def opPow : AV → AV → EP
  | .int x, .int y => fun Q _ σ => 0 ≤ y ∧ y ≤ 1000 ∧ x.natAbs < 2 ^ 60 ∧ Q (.int (x ^ y.toNat)) σ
  | _, _ => fun _ _ _ => False
noncomputable def opShr : AV → AV → EP
  | .int x, .int y => fun Q _ σ => 0 ≤ y ∧ Q (.int (x / 2 ^ y.toNat)) σ
  | _, _ => fun _ _ _ => False
noncomputable def opAnd : AV → AV → EP
  | .int x, .int y => fun Q _ σ => Q (.int (Builtin.bitAnd x y)) σ
  | _, _ => fun _ _ _ => False
noncomputable def opOr : AV → AV → EP
  | .int x, .int y => fun Q _ σ => Q (.int (Builtin.bitOr x y)) σ
  | _, _ => fun _ _ _ => False
noncomputable def opNeg : AV → EP
  | .int x => fun Q _ σ => Q (.int (-x)) σ
  | _ => fun _ _ _ => False

theorem bits_of_lt {x : Int} (h : x.natAbs < 2 ^ 60) : Builtin.Int.intBits x ≤ 64 := by
  unfold Builtin.Int.intBits
  split
  · (first | lia | omega)
  · rename_i hx
    have h0 : x.natAbs ≠ 0 := by simpa using hx
    have := (Nat.log2_lt h0).mpr h
    (first | lia | omega)

theorem op_div {F : FX} {a b : AV} {u v : Value} (ha : a.rep u) (hb : b.rep v) : OpSim P D F (binaryOp .FloorDiv u v) (opDiv a b) := by
  intro σ s Q E R h
  cases a <;> cases b <;> try exact h.elim
  obtain ⟨t, rfl⟩ := ha
  obtain ⟨t', rfl⟩ := hb
  obtain ⟨h0, h1, h2⟩ := h
  refine floordiv_int (by (first | lia | omega)) (.int R.toks h2 (Int.fdiv_eq_ediv_of_nonneg _ (by (first | lia | omega)))) (.inl (PyProof.noPylong_small (by (first | lia | omega))))
theorem op_mod {F : FX} {a b : AV} {u v : Value} (ha : a.rep u) (hb : b.rep v) : OpSim P D F (binaryOp .Mod u v) (opMod a b) := by
  intro σ s Q E R h
  cases a <;> cases b <;> try exact h.elim
  obtain ⟨t, rfl⟩ := ha
  obtain ⟨t', rfl⟩ := hb
  obtain ⟨h0, h2⟩ := h
  refine mod_int' (by (first | lia | omega)) (.int R.toks h2 (Int.fmod_eq_emod_of_nonneg _ (by (first | lia | omega))))
theorem op_pow {F : FX} {a b : AV} {u v : Value} (ha : a.rep u) (hb : b.rep v) : OpSim P D F (binaryOp .Pow u v) (opPow a b) := by
  intro σ s Q E R h
  cases a <;> cases b <;> try exact h.elim
  obtain ⟨t, rfl⟩ := ha
  obtain ⟨t', rfl⟩ := hb
  obtain ⟨h0, h1, h2, h3⟩ := h
  refine pow_int h0 ?_ (.int R.toks h3)
  rename_i x y
  have := bits_of_lt h2
  have h4 : (Builtin.Int.intBits x : Int) * y ≤ 64 * 1000 := Int.mul_le_mul (by (first | lia | omega)) h1 h0 (by decide)
  (first | lia | omega)
theorem op_shr {F : FX} {a b : AV} {u v : Value} (ha : a.rep u) (hb : b.rep v) : OpSim P D F (binaryOp .RShift u v) (opShr a b) := by
  intro σ s Q E R h
  cases a <;> cases b <;> try exact h.elim
  obtain ⟨t, rfl⟩ := ha
  obtain ⟨t', rfl⟩ := hb
  obtain ⟨h0, h2⟩ := h
  refine rshift_int h0 (.int R.toks h2 (Int.fdiv_eq_ediv_of_nonneg _ (Int.le_of_lt (Int.pow_pos (by decide)))))
theorem op_and {F : FX} {a b : AV} {u v : Value} (ha : a.rep u) (hb : b.rep v) : OpSim P D F (binaryOp .BitAnd u v) (opAnd a b) := by
  intro σ s Q E R h
  cases a <;> cases b <;> try exact h.elim
  obtain ⟨t, rfl⟩ := ha
  obtain ⟨t', rfl⟩ := hb
  exact and_int (.int R.toks h)
theorem op_or {F : FX} {a b : AV} {u v : Value} (ha : a.rep u) (hb : b.rep v) : OpSim P D F (binaryOp .BitOr u v) (opOr a b) := by
  intro σ s Q E R h
  cases a <;> cases b <;> try exact h.elim
  obtain ⟨t, rfl⟩ := ha
  obtain ⟨t', rfl⟩ := hb
  exact or_int (.int R.toks h)
theorem op_neg {F : FX} {a : AV} {u : Value} (ha : a.rep u) : OpSim P D F (unaryOp .USub u) (opNeg a) := by
  intro σ s Q E R h
  cases a <;> try exact h.elim
  obtain ⟨t, rfl⟩ := ha
  exact neg_int (.int R.toks h)

theorem op_add {F : FX} (O : FOk P D F) {a b : AV} {u v : Value} (ha : a.rep u) (hb : b.rep v) : OpSim P D F (binaryOp .Add u v) (opAdd a b) := by
  intro σ s Q E R h
  cases a <;> cases b <;> try exact h.elim
  · obtain ⟨t, rfl⟩ := ha
    obtain ⟨t', rfl⟩ := hb
    exact add_int (.int R.toks h)
  · subst ha hb
    obtain ⟨xs, ys, h1, h2, h3, h4⟩ := h
    obtain ⟨vs, hv, r1, _⟩ := R.isList h1
    obtain ⟨us, hu, r2, _⟩ := R.isList h2
    obtain ⟨m, Fm, hm⟩ := R.fr
    refine add_arrays Fm (news_all F.L s.heap) hv hu (fun h' F' N' => ?_) ?_
    · refine .ref (R.pushed O (o := .list (xs ++ ys)) hm F' N' rfl fun e => ⟨_, _, e, r1.append r2, by rw [List.length_append]; exact h3⟩) ?_
      exact h4 _ (R.fresh (heap_size_none _)).2
    · rw [r1.length, r2.length] at h3
      rw [List.size_toArray, List.size_toArray, sizeLine_eq]; (first | lia | omega)
end
end
section
section
variable {P : PC} {D : FD}

noncomputable abbrev intsA (ns : List Int) : List AV := ns.map .int

theorem Reps.ints : ∀ {ns : List Int} {vs : List Value}, Reps (intsA ns) vs → IntsAre vs ns
  | [], [], _ => .nil
  | n :: ns, v :: vs, ⟨⟨t, e⟩, r⟩ => by subst e; exact .cons n t (Reps.ints r)
  | [], _ :: _, h => h.elim
  | _ :: _, [], h => h.elim

theorem FOk.room {F : FX} (O : FOk P D F) : F.A.units + 64 < cLine := by have := O.units; unfold cLine; (first | lia | omega)

noncomputable def opMulInts := opMul
theorem joined_eq (xs : List Value) : ∀ (k : Nat) (acc : Array Value), List.foldl (fun x1 x2 => x1 ++ x2) acc (List.replicate k xs.toArray) = (acc.toList ++ (List.replicate k xs).flatten).toArray
  | 0, acc => by simp
  | k + 1, acc => by
    rw [List.replicate_succ, List.foldl_cons, joined_eq xs k, List.replicate_succ, List.flatten_cons]
    simp
theorem Reps.flat {l : List AV} {vs : List Value} (h : Reps l vs) : ∀ k, Reps (List.replicate k l).flatten (List.replicate k vs).flatten
  | 0 => trivial
  | k + 1 => by rw [List.replicate_succ, List.replicate_succ, List.flatten_cons, List.flatten_cons]; exact h.append (h.flat k)

theorem op_mul {F : FX} (O : FOk P D F) {a b : AV} {u v : Value} (ha : a.rep u) (hb : b.rep v) : OpSim P D F (binaryOp .Mult u v) (opMul a b) := by
  intro σ s Q E R h
  cases a <;> cases b <;> try exact h.elim
  · obtain ⟨t, rfl⟩ := ha
    obtain ⟨t', rfl⟩ := hb
    obtain ⟨h1, h2⟩ := h
    exact mul_int (.int R.toks h2) (h1.elim (fun x => .of_left (bits_of_lt x)) fun x => .of_right (bits_of_lt x))
  · subst ha
    obtain ⟨t', rfl⟩ := hb
    obtain ⟨xs, h1, h2, h3, h4, h5⟩ := h
    obtain ⟨vs, n, hv, r, _⟩ := R.plain h1
    obtain ⟨m, Fm, hm⟩ := R.fr
    refine mul_list Fm (news_all F.L s.heap) hv (by (first | lia | omega)) (by (first | lia | omega)) ?_ (fun h' F' N' => .ref (R.pushed O (o := .list (List.replicate _ xs).flatten) hm F' N' rfl fun e => ⟨_, 0, e.trans ?_, r.flat _, by rw [List.length_flatten, List.map_replicate, List.sum_replicate_nat, Nat.mul_comm]; exact h2⟩) (h5 _ (R.fresh (heap_size_none _)).2))
    · rw [List.size_toArray, ← r.length]; (first | lia | omega)
    · rw [joined_eq vs _ #[]]
      cases vs with
      | nil => simp [W.listOf]
      | cons v vs => simp [W.listOf]

-- comparisons
noncomputable def opEq : AV → AV → EP
  | .int x, .int y => fun Q _ σ => Q (.bool (decide (x = y))) σ
  | .bool x, .bool y => fun Q _ σ => Q (.bool (x == y)) σ
  | .ref l, .ref r => fun Q _ σ => ∃ xs ys, σ.lst l = some (intsA xs) ∧ σ.lst r = some (intsA ys) ∧ Q (.bool (decide (xs = ys))) σ
  | _, _ => fun _ _ _ => False
noncomputable def opNe : AV → AV → EP
  | .int x, .int y => fun Q _ σ => Q (.bool (!decide (x = y))) σ
  | .bool x, .bool y => fun Q _ σ => Q (.bool (x != y)) σ
  | .ref l, .ref r => fun Q _ σ => ∃ xs ys, σ.lst l = some (intsA xs) ∧ σ.lst r = some (intsA ys) ∧ Q (.bool (!decide (xs = ys))) σ
  | _, _ => fun _ _ _ => False
noncomputable def opLt : AV → AV → EP
  | .int x, .int y => fun Q _ σ => Q (.bool (decide (x < y))) σ
  | _, _ => fun _ _ _ => False
noncomputable def opGt : AV → AV → EP
  | .int x, .int y => fun Q _ σ => Q (.bool (decide (y < x))) σ
  | _, _ => fun _ _ _ => False
noncomputable def opGe : AV → AV → EP
  | .int x, .int y => fun Q _ σ => Q (.bool (decide (y ≤ x))) σ
  | _, _ => fun _ _ _ => False
/-- is None -/
noncomputable def opIsN : AV → AV → EP
  | .none, .none => fun Q _ σ => Q (.bool true) σ
  | .ref _, .none => fun Q _ σ => Q (.bool false) σ
  | _, _ => fun _ _ _ => False
noncomputable def opIsNotN : AV → AV → EP
  | .none, .none => fun Q _ σ => Q (.bool false) σ
  | .ref _, .none => fun Q _ σ => Q (.bool true) σ
  | _, _ => fun _ _ _ => False
/-- an int in a list of intsA, a dict, a set -/
noncomputable def hasKey (σ : St) (c : Addr) (x : Int) : Option Bool := match σ.hp c with
  | some (.dict es _) => some (es.any (·.1 == x))
  | some (.set S _) => some (S x)
  | _ => none
noncomputable def opIn : AV → AV → EP
  | .int x, .ref c => fun Q _ σ => (∃ xs, σ.lst c = some (intsA xs) ∧ Q (.bool (xs.any (· == x))) σ) ∨ (∃ b, hasKey σ c x = some b ∧ Q (.bool b) σ)
  | _, _ => fun _ _ _ => False
noncomputable def opNotIn : AV → AV → EP
  | .int x, .ref c => fun Q _ σ => (∃ xs, σ.lst c = some (intsA xs) ∧ Q (.bool (!xs.any (· == x))) σ) ∨ (∃ b, hasKey σ c x = some b ∧ Q (.bool (!b)) σ)
  | _, _ => fun _ _ _ => False

theorem op_eq {F : FX} (O : FOk P D F) {a b : AV} {u v : Value} (ha : a.rep u) (hb : b.rep v) : OpSim P D F (compareOp .Eq u v) (opEq a b) := by
  intro σ s Q E R h
  cases a <;> cases b <;> try exact h.elim
  · subst ha hb; refine PyProof.Rows.eq_bool ?_; exact RE.bool R h
  · obtain ⟨t, rfl⟩ := ha
    obtain ⟨t', rfl⟩ := hb
    exact eq_int (.bool R h)
  · subst ha hb
    obtain ⟨xs, ys, h1, h2, h3⟩ := h
    obtain ⟨vs, e1, r1, _⟩ := R.isList h1
    obtain ⟨us, e2, r2, _⟩ := R.isList h2
    exact eq_intsK e1 r1.ints e2 r2.ints O.room (.bool R h3)
theorem op_ne {F : FX} (O : FOk P D F) {a b : AV} {u v : Value} (ha : a.rep u) (hb : b.rep v) : OpSim P D F (compareOp .NotEq u v) (opNe a b) := by
  intro σ s Q E R h
  cases a <;> cases b <;> try exact h.elim
  · subst ha hb; refine PyProof.Rows.ne_bool ?_; exact RE.bool R h
  · obtain ⟨t, rfl⟩ := ha
    obtain ⟨t', rfl⟩ := hb
    exact ne_int (.bool R h)
  · subst ha hb
    obtain ⟨xs, ys, h1, h2, h3⟩ := h
    obtain ⟨vs, e1, r1, _⟩ := R.isList h1
    obtain ⟨us, e2, r2, _⟩ := R.isList h2
    exact ne_intsK e1 r1.ints e2 r2.ints O.room (.bool R h3)
theorem op_ge {F : FX} {a b : AV} {u v : Value} (ha : a.rep u) (hb : b.rep v) : OpSim P D F (compareOp .GtE u v) (opGe a b) := by
  intro σ s Q E R h
  cases a <;> cases b <;> try exact h.elim
  obtain ⟨t, rfl⟩ := ha
  obtain ⟨t', rfl⟩ := hb
  exact ge_int (.bool R h)
theorem op_isN {F : FX} {a b : AV} {u v : Value} (ha : a.rep u) (hb : b.rep v) : OpSim P D F (compareOp .Is u v) (opIsN a b) := by
  intro σ s Q E R h
  cases a <;> cases b <;> try exact h.elim
  · subst ha hb; exact wpAny_is_plain rfl (.bool R h)
  · subst ha hb; exact wpAny_is_plain rfl (.bool R h)
theorem op_isNotN {F : FX} {a b : AV} {u v : Value} (ha : a.rep u) (hb : b.rep v) : OpSim P D F (compareOp .IsNot u v) (opIsNotN a b) := by
  intro σ s Q E R h
  cases a <;> cases b <;> try exact h.elim
  · subst ha hb; exact wpAny_isNot_plain rfl (.bool R h)
  · subst ha hb; exact wpAny_isNot_plain rfl (.bool R h)

theorem dict_find {es : List (Int × AV)} {kvs : List (Int × Value)} (h : dictEs es kvs) (x : Int) : es.any (·.1 == x) = (kvs.any (·.1 == x)) := by
  have h1 : es.any (·.1 == x) = (es.map (·.1)).any (· == x) := by rw [List.any_map]; rfl
  have h2 : kvs.any (·.1 == x) = (kvs.map (·.1)).any (· == x) := by rw [List.any_map]; rfl
  rw [h1, h2, h.1]

end
end
section
section
variable {P : PC} {D : FD}

theorem valueAt_any (kvs : List (Int × Value)) (x : Int) : (valueAt kvs x).isSome = kvs.any (·.1 == x) := by
  unfold valueAt
  rw [Option.isSome_map]
  induction kvs with
  | nil => rfl
  | cons a l ih =>
    rw [List.find?_cons, List.any_cons]
    by_cases h : a.1 = x
    · simp [h]
    · simp [h, ih]

theorem hasKey_in {F : FX} {σ : St} {s : Shared} {c : Addr} {x : Int} {b : Bool} {t : Tok} {Q : Value → Shared → Prop} {E : Value → Shared → Prop} (R : Rel P D F σ s) (h : hasKey σ c x = some b)
    (hq : Q (.bool b) { s with toks := s.toks + 1 }) : wpAny (model P.prog P.w) F.A (compareOp .In (.int x t) (.ref c)) Q E s := by
  unfold hasKey at h
  split at h
  · rename_i es ep e
    obtain ⟨kvs, hd, hes, hsys, _⟩ := (R.hp c _ e).1
    refine wpAny_in_of (knd := intKind P.prog P.w) (k := x) (by simp [intKind, Value.isInt]) hsys hd.dictOf.mapOf ?_
    rw [valueAt_any, ← dict_find hes]
    cases h; exact hq
  · rename_i S n e
    have hS := (R.hp c _ e).1
    refine wpAny_inSet_of (knd := intKind P.prog P.w) (k := x) (by simp [intKind, Value.isInt]) rfl hS ?_
    cases h; exact hq
  · cases h
theorem hasKey_notIn {F : FX} {σ : St} {s : Shared} {c : Addr} {x : Int} {b : Bool} {t : Tok} {Q : Value → Shared → Prop} {E : Value → Shared → Prop} (R : Rel P D F σ s) (h : hasKey σ c x = some b)
    (hq : Q (.bool (!b)) { s with toks := s.toks + 1 }) : wpAny (model P.prog P.w) F.A (compareOp .NotIn (.int x t) (.ref c)) Q E s := by
  unfold hasKey at h
  split at h
  · rename_i es ep e
    obtain ⟨kvs, hd, hes, hsys, _⟩ := (R.hp c _ e).1
    refine wpAny_notIn_of (knd := intKind P.prog P.w) (k := x) (by simp [intKind, Value.isInt]) hsys hd.dictOf.mapOf ?_
    rw [valueAt_any, ← dict_find hes]
    cases h; exact hq
  · rename_i S n e
    have hS := (R.hp c _ e).1
    refine wpAny_notInSet_of (knd := intKind P.prog P.w) (k := x) (by simp [intKind, Value.isInt]) rfl hS ?_
    cases h; exact hq
  · cases h

theorem op_in {F : FX} {a b : AV} {u v : Value} (ha : a.rep u) (hb : b.rep v) : OpSim P D F (compareOp .In u v) (opIn a b) := by
  intro σ s Q E R h
  cases a <;> cases b <;> try exact h.elim
  obtain ⟨t, rfl⟩ := ha
  subst hb
  rcases h with ⟨xs, h1, h2⟩ | ⟨b, h1, h2⟩
  · obtain ⟨vs, e1, r1, hz⟩ := R.isList h1
    exact in_list_ints e1 r1.ints (.bool R h2)
  · exact hasKey_in R h1 (.bool R.toks h2)
theorem op_notIn {F : FX} {a b : AV} {u v : Value} (ha : a.rep u) (hb : b.rep v) : OpSim P D F (compareOp .NotIn u v) (opNotIn a b) := by
  intro σ s Q E R h
  cases a <;> cases b <;> try exact h.elim
  obtain ⟨t, rfl⟩ := ha
  subst hb
  rcases h with ⟨xs, h1, h2⟩ | ⟨b, h1, h2⟩
  · obtain ⟨vs, e1, r1, hz⟩ := R.isList h1
    exact notin_list_ints e1 r1.ints (.bool R h2)
  · exact hasKey_notIn R h1 (.bool R.toks h2)

-- truth
noncomputable def pTruth : AV → TP
  | .none => fun Q _ σ => Q false σ
  | .bool b => fun Q _ σ => Q b σ
  | .int i => fun Q _ σ => Q (!decide (i = 0)) σ
  | .ref a => fun Q _ σ => ∃ l, σ.lst a = some l ∧ Q (!l.isEmpty) σ

theorem op_truth {F : FX} {a : AV} {u : Value} (ha : a.rep u) {σ : St} {s : Shared} {Q : Bool → St → Prop} {E : Ex → St → Prop} (R : Rel P D F σ s) (h : pTruth a Q E σ) :
    wpAny (model P.prog P.w) F.A (truthy u) (RB P D F Q) (RX P D F E) s := by
  cases a with
  | none => subst ha; exact truthy_none ⟨σ, R, h⟩
  | bool b => subst ha; exact wpAny_truthy_bool ⟨σ, R, h⟩
  | int i => obtain ⟨t, rfl⟩ := ha; exact PyProof.Rows.truthy_int ⟨σ, R, h⟩
  | ref a =>
    subst ha
    obtain ⟨l, h1, h2⟩ := h
    obtain ⟨vs, e1, r1, hz⟩ := R.isList h1
    have := r1.length
    refine wpAny_truthy_list e1 (by rw [List.size_toArray]; (first | lia | omega)) ⟨σ, R.toks, ?_⟩
    have e : l.isEmpty = vs.toArray.isEmpty := by
      cases l <;> cases vs <;> simp_all
    rw [← e]; exact h2

noncomputable def tOf (p : EP) : TP := fun Q E σ => p (fun v σ' => pTruth v Q E σ') E σ
noncomputable def tNot (p : TP) : TP := fun Q E σ => p (fun b σ' => Q (!b) σ') E σ
noncomputable def tAnd (p q : TP) : TP := fun Q E σ => p (fun b σ' => if b then q Q E σ' else Q false σ') E σ
noncomputable def tOr (p q : TP) : TP := fun Q E σ => p (fun b σ' => if b then Q true σ' else q Q E σ') E σ
noncomputable def tTrue : TP := fun Q _ σ => Q true σ
noncomputable def tFalse : TP := fun Q _ σ => Q false σ

theorem sim_tOf {e : Expr} {p : EP} (h : SimE P D e p) (he : ∀ (env : Env) (whole : Sem Value), isTrue e env whole = (do let v ← whole; standAt e.pos; holding [v] (truthy v)) := by intro _ _; rfl) : SimT P D e (tOf p) := by
  intro F O σ s Q E R hp
  refine isTrue_plain (wpAny_mono (h F O σ s _ E R hp) ?_ fun _ _ x => x) (he _ _)
  rintro v s₁ ⟨a, σ₁, ha, R₁, h₁⟩
  exact op_truth ha R₁ h₁
theorem sim_tCmp {l r : Expr} {op : CmpOp} {pos : Pos} {pl pr : EP} {f : AV → AV → EP} (hl : SimE P D l pl) (hr : SimE P D r pr)
    (ho : ∀ F, FOk P D F → ∀ a b u v, a.rep u → b.rep v → OpSim P D F (compareOp op u v) (f a b)) (hm : behindInMarks op r = false := by with_unfolding_all rfl) : SimT P D (.Compare l [op] [r] pos) (tOf (pBin f pl pr)) := by
  intro F O σ s Q E R h
  refine wpAny_isTrue_Compare1 (wpAny_mono (hl F O σ s _ E R h) ?_ fun _ _ x => x) hm
  rintro u s₁ ⟨a, σ₁, ha, R₁, h₁⟩
  refine wpAny_mono (hr F O σ₁ s₁ _ E R₁ h₁) ?_ fun _ _ x => x
  rintro v s₂ ⟨b, σ₂, hb, R₂, h₂⟩
  refine wpAny_mono (ho F O a b u v ha hb σ₂ s₂ _ E R₂ h₂) ?_ fun _ _ x => x
  rintro w s₃ ⟨c, σ₃, hc, R₃, h₃⟩
  exact op_truth hc R₃ h₃
theorem sim_tAnd {x y : Expr} {pos : Pos} {p q : TP} (h : SimT P D x p) (h' : SimT P D y q) : SimT P D (.BoolOp .And [x, y] pos) (tAnd p q) := by
  intro F O σ s Q E R hp
  refine wpAny_isTrue_BoolOp (wpAny_allTrue_And_cons (wpAny_mono (h F O σ s _ E R hp) ?_ fun _ _ x => x))
  rintro b s₁ ⟨σ₁, R₁, h₁⟩
  cases b with
  | false => exact ⟨σ₁, R₁, h₁⟩
  | true =>
    refine wpAny_allTrue_And_cons (wpAny_mono (h' F O σ₁ s₁ _ E R₁ h₁) ?_ fun _ _ x => x)
    rintro b s₂ ⟨σ₂, R₂, h₂⟩
    cases b with
    | false => exact ⟨σ₂, R₂, h₂⟩
    | true => exact wpAny_allTrue_And_nil ⟨σ₂, R₂, h₂⟩
theorem sim_tOr {x y : Expr} {pos : Pos} {p q : TP} (h : SimT P D x p) (h' : SimT P D y q) : SimT P D (.BoolOp .Or [x, y] pos) (tOr p q) := by
  intro F O σ s Q E R hp
  refine wpAny_isTrue_BoolOp (wpAny_allTrue_Or_cons (wpAny_mono (h F O σ s _ E R hp) ?_ fun _ _ x => x))
  rintro b s₁ ⟨σ₁, R₁, h₁⟩
  cases b with
  | true => exact ⟨σ₁, R₁, h₁⟩
  | false =>
    refine wpAny_allTrue_Or_cons (wpAny_mono (h' F O σ₁ s₁ _ E R₁ h₁) ?_ fun _ _ x => x)
    rintro b s₂ ⟨σ₂, R₂, h₂⟩
    cases b with
    | true => exact ⟨σ₂, R₂, h₂⟩
    | false => exact wpAny_allTrue_Or_nil ⟨σ₂, R₂, h₂⟩
-- values of and, or, not, a if b else c
noncomputable def pAnd (p q : EP) : EP := fun Q E σ => p (fun v σ' => pTruth v (fun b σ'' => if b then q Q E σ'' else Q v σ'') E σ') E σ
noncomputable def pOr (p q : EP) : EP := fun Q E σ => p (fun v σ' => pTruth v (fun b σ'' => if b then Q v σ'' else q Q E σ'') E σ') E σ
noncomputable def pNot (p : EP) : EP := fun Q E σ => p (fun v σ' => pTruth v (fun b σ'' => Q (.bool (!b)) σ'') E σ') E σ
noncomputable def pIf (t : TP) (p q : EP) : EP := fun Q E σ => t (fun b σ' => if b then p Q E σ' else q Q E σ') E σ
theorem sim_if {t x y : Expr} {pos : Pos} {pt : TP} {p q : EP} (ht : SimT P D t pt) (h : SimE P D x p) (h' : SimE P D y q) : SimE P D (.IfExp t x y pos) (pIf pt p q) := by
  intro F O σ s Q E R hp
  refine wpAny_IfExp (wpAny_mono (ht F O σ s _ E R hp) ?_ fun _ _ x => x)
  rintro b s₂ ⟨σ₂, R₂, h₂⟩
  cases b with
  | true => exact h F O σ₂ s₂ Q E R₂ h₂
  | false => exact h' F O σ₂ s₂ Q E R₂ h₂

-- displays
noncomputable def lNil : LP := fun Q _ σ => Q [] σ
noncomputable def lCons (p : EP) (q : LP) : LP := fun Q E σ => p (fun v σ' => q (fun vs σ'' => Q (v :: vs) σ'') E σ') E σ
theorem sim_nil : SimL P D [] lNil := fun F _ pos σ s Q E R h => wpAny_items_nil (⟨[], σ, trivial, R, h⟩ : RL P D F Q [] s)
theorem sim_cons {e : Expr} {es : List Expr} {p : EP} {q : LP} (h : SimE P D e p) (h' : SimL P D es q) (he : ∀ env, starEach (e :: es) env = (false, eval e env) :: starEach es env := by intro _; rfl) : SimL P D (e :: es) (lCons p q) := by
  intro F O pos σ s Q E R hp
  refine wpAny_items_cons (wpAny_mono (h F O σ s _ E R hp) ?_ fun _ _ x => x) (he _)
  rintro u s₁ ⟨a, σ₁, ha, R₁, h₁⟩
  refine wpAny_mono (h' F O pos σ₁ s₁ _ E R₁ h₁) ?_ fun _ _ x => x
  rintro us s₂ ⟨as, σ₂, has, R₂, h₂⟩
  exact ⟨a :: as, σ₂, ⟨ha, has⟩, R₂, h₂⟩

noncomputable def pList (q : LP) : EP := fun Q E σ => q (fun vs σ' => vs.length ≤ 1000000 ∧ ∀ a, σ'.hp a = none → Q (.ref a) ⟨σ'.loc, upd σ'.hp a (.list vs)⟩) E σ
noncomputable def pTuple (q : LP) : EP := fun Q E σ => q (fun vs σ' => vs.length ≤ 1000000 ∧ ∀ a, σ'.hp a = none → Q (.ref a) ⟨σ'.loc, upd σ'.hp a (.tup vs)⟩) E σ
theorem sim_list {es : List Expr} {pos : Pos} {q : LP} (h : SimL P D es q) : SimE P D (.List es pos) (pList q) := by
  intro F O σ s Q E R hp
  refine wpAny_List (wpAny_mono (h F O pos σ s _ E R hp) ?_ fun _ _ x => x)
  rintro us s₁ ⟨as, σ₁, ha, R₁, hz, h₁⟩
  have := ha.length
  exact ⟨by rw [sizeLine_eq]; (first | lia | omega), .ref (R₁.push _ (.list as) rfl ⟨us, 0, Heap.get?_push_size _ rfl, ha, hz⟩) (h₁ _ (R₁.fresh (heap_size_none _)).2)⟩
theorem sim_tuple {es : List Expr} {k : Nat} {pos : Pos} {q : LP} (h : SimL P D es q) : SimE P D (.Tuple es k pos) (pTuple q) := by
  intro F O σ s Q E R hp
  refine wpAny_Tuple_spliced (wpAny_mono (h F O pos σ s _ E R hp) ?_ fun _ _ x => x)
  rintro us s₁ ⟨as, σ₁, ha, R₁, hz, h₁⟩
  have := ha.length
  exact ⟨by rw [sizeLine_eq]; (first | lia | omega), .ref (R₁.push _ (.tup as) rfl ⟨us, 0, Heap.get?_push_size _ rfl, ha, hz⟩) (h₁ _ (R₁.fresh (heap_size_none _)).2)⟩

end
end
section
section
variable {P : PC} {D : FD}

noncomputable def St.item (σ : St) (a : Addr) (k : Int) : Option AV := match σ.hp a with
  | some (.list l) => (seqIndex? k l.length).bind (l[·]?)
  | some (.flist l) => (seqIndex? k l.length).bind (l[·]?)
  | some (.tup l) => (seqIndex? k l.length).bind (l[·]?)
  | some (.dict es _) => (es.find? fun e => e.1 = k).map (·.2)
  | _ => none
noncomputable def opItem : AV → AV → EP
  | .ref a, .int k => fun Q _ σ => ∃ v, σ.item a k = some v ∧ Q v σ
  | _, _ => fun _ _ _ => False

theorem seqIndex_some {k : Int} {n j : Nat} (h : seqIndex? k n = some j) : (0 ≤ k ∧ k = j ∧ j < n) ∨ (k < 0 ∧ k + n = j ∧ j < n) := by
  unfold seqIndex? at h
  dsimp only at h
  by_cases hk : k < 0
  · rw [if_pos hk] at h
    by_cases hc : (decide (0 ≤ k + (n : Int)) && decide (k + (n : Int) < n)) = true
    · rw [if_pos hc] at h
      simp only [Bool.and_eq_true, decide_eq_true_eq] at hc
      have := Option.some.inj h
      exact .inr ⟨hk, by omega, by omega⟩
    · rw [if_neg hc] at h; cases h
  · rw [if_neg hk] at h
    by_cases hc : (decide (0 ≤ k) && decide (k < n)) = true
    · rw [if_pos hc] at h
      simp only [Bool.and_eq_true, decide_eq_true_eq] at hc
      have := Option.some.inj h
      exact .inl ⟨by omega, by omega, by omega⟩
    · rw [if_neg hc] at h; cases h

theorem dict_value : ∀ {es : List (Int × AV)} {kvs : List (Int × Value)} (_ : dictEs es kvs) (k : Int) {v : AV}, (es.find? fun e => e.1 = k).map (·.2) = some v → ∃ u, valueAt kvs k = some u ∧ v.rep u
  | [], [], _, _, _, h => by simp at h
  | e :: es, x :: kvs, ⟨h1, h2⟩, k, v, h => by
    simp only [List.map_cons, List.cons.injEq] at h1
    obtain ⟨h3, h4⟩ := h2
    unfold valueAt
    rw [List.find?_cons] at h ⊢
    rw [h1.1]
    by_cases hk : e.1 = k
    · simp only [hk, decide_true] at h ⊢
      cases h; exact ⟨x.2, rfl, h3⟩
    · simp only [hk, decide_false] at h ⊢
      exact dict_value ⟨h1.2, h4⟩ k h
  | [], _ :: _, ⟨h1, _⟩, _, _, _ => by simp at h1
  | _ :: _, [], ⟨h1, _⟩, _, _, _ => by simp at h1

theorem op_item {F : FX} {a b : AV} {u v : Value} (ha : a.rep u) (hb : b.rep v) : OpSim P D F (getItem u v) (opItem a b) := by
  intro σ s Q E R h
  cases a <;> cases b <;> try exact h.elim
  rename_i a k
  subst ha
  obtain ⟨t, rfl⟩ := hb
  obtain ⟨x, h1, h2⟩ := h
  unfold St.item at h1
  have lst : ∀ l, σ.lst a = some l → (seqIndex? k l.length).bind (l[·]?) = some x → wpAny (model P.prog P.w) F.A (getItem (.ref a) (.int k t)) (RE P D F Q) (RX P D F E) s := by
    intro l hl hx
    obtain ⟨vs, e1, r1, hz⟩ := R.isList hl
    obtain ⟨j, hj, hxj⟩ := Option.bind_eq_some_iff.mp hx
    obtain ⟨y, hy, hr⟩ := r1.get j hxj
    have hlen := r1.length
    rcases seqIndex_some hj with ⟨h3, h4, h5⟩ | ⟨h3, h4, h5⟩
    · exact wpAny_getItem_list e1 h3 (by omega) (by rw [h4]; simpa using hy) ⟨x, σ, hr, R, h2⟩
    · refine wpAny_getItem_list_neg e1 h3 (by rw [List.size_toArray]; omega) (by omega) ?_ ⟨x, σ, hr, R, h2⟩
      rw [List.size_toArray, ← hlen, h4]; simpa using hy
  split at h1
  · rename_i l e; exact lst l (by unfold St.lst; rw [e]) h1
  · rename_i l e; exact lst l (by unfold St.lst; rw [e]) h1
  · rename_i l e
    obtain ⟨vs, n, e1, r1, hz⟩ := R.tup e
    obtain ⟨j, hj, hxj⟩ := Option.bind_eq_some_iff.mp h1
    obtain ⟨y, hy, hr⟩ := r1.get j hxj
    have hlen := r1.length
    have := seqIndex_some hj
    exact PyProof.Rows.getItem_tuple (items := vs.toArray) ⟨_, e1, rfl, n, rfl⟩ (by omega) (by omega) (by rw [List.size_toArray, ← hlen]; exact hj) (by simpa using hy) ⟨x, σ, hr, R, h2⟩
  · rename_i es ep e
    obtain ⟨kvs, hd, hes, hsys, _⟩ := (R.hp a _ e).1
    obtain ⟨y, hy, hr⟩ := dict_value hes k h1
    exact wpAny_getItem_of (knd := intKind P.prog P.w) (k := k) (by simp [intKind, Value.isInt]) hd.dictOf.mapOf hy ⟨x, σ, hr, R.toks, h2⟩
  · cases h1

/-- the types whose items the text reads -/
theorem item_type {F : FX} {σ : St} {s : Shared} (R : Rel P D F σ s) {a : Addr} {k : Int} {v : AV} (h : σ.item a k = some v) : ∃ T id, s.TypeIs (.ref a) T ∧ typeLookup (.type T) "__getitem__" = pure (some (.builtin id)) := by
  unfold St.item at h
  split at h
  · rename_i l e
    obtain ⟨vs, n, e1, _⟩ := R.plain e
    exact ⟨"list", _, ⟨_, e1, rfl⟩, slot_list_getitem.lookup⟩
  · rename_i l e
    obtain ⟨vs, e1, _⟩ := R.isList (by unfold St.lst; rw [e])
    exact ⟨"list", _, e1.typeIs, slot_list_getitem.lookup⟩
  · rename_i l e
    obtain ⟨vs, n, e1, _⟩ := R.tup e
    exact ⟨"tuple", _, ⟨_, e1, rfl⟩, slot_tuple_getitem.lookup⟩
  · rename_i es ep e
    obtain ⟨kvs, hd, _⟩ := (R.hp a _ e).1
    exact ⟨"dict", _, hd.dictOf.typeIs, slot_dict_getitem.lookup⟩
  · cases h

noncomputable def notSlice : Expr → Bool
  | .Slice .. => false
  | _ => true

theorem sim_item {value slice : Expr} {pos : Pos} {p q : EP} (h : SimE P D value p) (h' : SimE P D slice q) (hs : notSlice slice = true := by rfl) : SimE P D (.Subscript value slice pos) (pBin opItem p q) := by
  intro F O σ s Q E R hp
  refine Subscript_ (wpAny_mono (h F O σ s _ E R hp) ?_ fun _ _ x => x)
  rintro u s₁ ⟨a, σ₁, ha, R₁, h₁⟩
  refine wpAny_mono (h' F O σ₁ s₁ _ E R₁ h₁) ?_ fun _ _ x => x
  rintro v s₂ ⟨b, σ₂, hb, R₂, h₂⟩
  have main := op_item ha hb σ₂ s₂ Q E R₂ h₂
  cases a <;> cases b <;> try exact h₂.elim
  rename_i a k
  obtain ⟨x, hx, _⟩ := h₂
  obtain ⟨T, id, hT, hl⟩ := item_type R₂ hx
  obtain ⟨t, rfl⟩ := hb
  subst ha
  refine tail_any hT hl main (ops := [.ref a, .int k t]) ?_
  cases slice <;> first | rfl | cases hs

-- slices
noncomputable def clipN (v : Option Int) (dflt n : Nat) : Nat := match v with
  | none => dflt
  | some i => (max 0 (min (if i < 0 then i + n else i) n)).toNat
noncomputable def pickA (xs : List AV) (lo hi : Option Int) : List AV := (xs.drop (clipN lo 0 xs.length)).take (clipN hi xs.length xs.length - clipN lo 0 xs.length)

theorem slicePick_eq (vs : List Value) (lo hi : Option Int) : slicePick vs.toArray lo hi none = ((vs.drop (clipN lo 0 vs.length)).take (clipN hi vs.length vs.length - clipN lo 0 vs.length)).toArray := by
  have e : sliceBounds lo hi none vs.toArray.size = (((clipN lo 0 vs.length : Nat) : Int), ((clipN hi vs.length vs.length : Nat) : Int), 1) := by
    unfold sliceBounds clipN
    simp only [Option.getD_none, show (1 : Int) > 0 by decide, if_true, List.size_toArray]
    congr 1
    · cases lo with
      | none => rfl
      | some i => simp only []; omega
    · congr 1
      cases hi with
      | none => rfl
      | some i => simp only []; omega
  rw [kmk_pick_nat _ e]

theorem Reps.pick {l : List AV} {vs : List Value} (r : Reps l vs) (lo hi : Option Int) : Reps (pickA l lo hi) ((vs.drop (clipN lo 0 vs.length)).take (clipN hi vs.length vs.length - clipN lo 0 vs.length)) := by
  unfold pickA
  rw [r.length]
  exact (r.drop _).take _

noncomputable def partOf : AV → Option (Option Int)
  | .none => some none
  | .int i => some (some i)
  | _ => none
theorem isPart {a : AV} {u : Value} {lo : Option Int} (ha : a.rep u) (h : partOf a = some lo) : IsPart u lo := by
  cases a <;> simp only [partOf] at h <;> try cases h
  · subst ha; exact .none
  · obtain ⟨t, rfl⟩ := ha; exact .int _ t

noncomputable def SimO (P : PC) (D : FD) (e : Option Expr) (p : EP) : Prop := ∀ F, FOk P D F → ∀ σ s Q E, Rel P D F σ s → p Q E σ → wpAny (model P.prog P.w) F.A (evalPart e F.env) (RE P D F Q) (RX P D F E) s
theorem sim_oNone : SimO P D none pNone := fun _ _ _ _ _ _ R h => wpAny_evalPart_none (RE.none R h)
theorem sim_oSome {e : Expr} {p : EP} (h : SimE P D e p) : SimO P D (some e) p := fun F O σ s Q E R hp => wpAny_evalPart_some (h F O σ s Q E R hp)

noncomputable def pSlice (p l u : EP) : EP := fun Q E σ => p (fun v σ₁ => l (fun lv σ₂ => u (fun uv σ₃ => ∃ a lo hi xs, v = .ref a ∧ partOf lv = some lo ∧ partOf uv = some hi ∧ σ₃.lst a = some xs ∧
  ∀ b, σ₃.hp b = none → Q (.ref b) ⟨σ₃.loc, upd σ₃.hp b (.list (pickA xs lo hi))⟩) E σ₂) E σ₁) E σ

theorem pickA_len (xs : List AV) (lo hi : Option Int) : (pickA xs lo hi).length ≤ xs.length := by
  unfold pickA; rw [List.length_take, List.length_drop]; omega

theorem sim_slice {value : Expr} {lower upper : Option Expr} {p' pos : Pos} {p l u : EP} (h : SimE P D value p) (hl : SimO P D lower l) (hu : SimO P D upper u) : SimE P D (.Subscript value (.Slice lower upper none p') pos) (pSlice p l u) := by
  intro F O σ s Q E R hp
  refine Subscript_ (wpAny_mono (h F O σ s _ E R hp) ?_ fun _ _ x => x)
  rintro uu s₁ ⟨a, σ₁, ha, R₁, h₁⟩
  refine wpAny_Slice (wpAny_mono (hl F O σ₁ s₁ _ E R₁ h₁) ?_ fun _ _ x => x)
  rintro lv s₂ ⟨b, σ₂, hb, R₂, h₂⟩
  refine wpAny_mono (hu F O σ₂ s₂ _ E R₂ h₂) ?_ fun _ _ x => x
  rintro uv s₃ ⟨c, σ₃, hc, R₃, a', lo, hi, xs, rfl, e1, e2, e3, h₃⟩
  refine wpAny_evalPart_none ?_
  subst ha
  obtain ⟨vs, hv, r, hz⟩ := R₃.isList e3
  have hk : ∀ b o, s₃.heap.get? b = some o → (s₃.heap.push { cls := .type "slice", data := .fields #[lv, uv, .none] }).get? b = some o := fun _ _ e => Heap.get?_push_of_some _ e
  have R₄ := R₃.ext (t := s₃.toks) hk
  refine tail_any (T := "list") (ops := [.ref s₃.heap.objs.size, .ref a']) (hv.push _).typeIs slot_list_getitem.lookup ?_ rfl
  refine wpAny_getItem_list_slice (hv.push _) ⟨_, Heap.get?_push_size _ rfl, rfl, rfl⟩ (isPart hb e1) (isPart hc e2) .none (by decide) ?_ (by have := r.length; rw [List.size_toArray, sizeLine_eq]; omega)
  refine .ref (R₄.push _ (.list (pickA xs lo hi)) rfl ⟨_, 0, ?_, r.pick lo hi, ?_⟩) (h₃ _ ((R₄.fresh (heap_size_none _)).2))
  · rw [slicePick_eq]
    exact Heap.get?_push_size _ rfl
  · have := pickA_len xs lo hi; omega

end
end
section
noncomputable def sName : Nat → Str
  | 0 => "_node2info"
  | 1 => "_ready_nodes"
  | 2 => "_npassedout"
  | _ => "_nfinished"
noncomputable def nName : Nat → Str
  | 0 => "node"
  | 1 => "npredecessors"
  | _ => "successors"

structure POk (P : PC) : Prop where
  sGet : ∀ k, k < 4 → plainGet P.K P.cS (sName k) = true ∧ findIn P.K (.ref P.cS) (sName k) = some none ∧ takerIn P.K P.cS (sName k) = some none
  sDict : hasDictIn P.K P.cS = true
  sSet : findIn P.K (.ref P.cS) "__setattr__" = some (some (.builtin "object.__setattr__"))
  sOver : plainOver P.K P.cS = true
  nSet : findIn P.K (.ref P.cN) "__setattr__" = some (some (.builtin "object.__setattr__"))
  nOver : plainOver P.K P.cN = true
  nCls : isClsIn P.K P.cN = true
  nSlot : ∀ k, k < 3 → ∃ p, plainGet P.K P.cN (nName k) = true ∧ findIn P.K (.ref P.cN) (nName k) = some (some (.ref p)) ∧ specialIn P.K (.ref p) "__get__" = some (some (.builtin "member_descriptor.__get__")) ∧
    takesIn P.K (.ref p) = some true ∧ slotIn P.K p P.cN = some k ∧ takerIn P.K P.cN (nName k) = some (some (.ref p)) ∧ typeIn P.K (.ref p) = some (.type "member_descriptor")

noncomputable def AObj.fld : AObj → Nat → Option AV
  | .sd v0 v1 v2 v3, k => match k with | 0 => v0 | 1 => v1 | 2 => v2 | _ => v3
  | _, _ => none
noncomputable def AObj.setFld : AObj → Nat → AV → AObj
  | .sd v0 v1 v2 v3, k, v => match k with | 0 => .sd (some v) v1 v2 v3 | 1 => .sd v0 (some v) v2 v3 | 2 => .sd v0 v1 (some v) v3 | _ => .sd v0 v1 v2 (some v)
  | o, _, _ => o

section
variable {P : PC} {D : FD}

theorem FOk.kin {F : FX} (O : FOk P D F) {σ : St} {s : Shared} (R : Rel P D F σ s) : P.K.In s.heap := O.X.keeps fun b o e => R.keep b o (O.kbg b o e)

theorem rep_handed {a : AV} {u : Value} (h : a.rep u) : handedIn u = true := by
  cases a <;> simp only [AV.rep] at h
  · subst h; rfl
  · subst h; rfl
  · obtain ⟨t, rfl⟩ := h; rfl
  · subst h; rfl

theorem inst_at {F : FX} {σ : St} {s : Shared} (R : Rel P D F σ s) {a d : Addr} {v0 v1 v2 v3 : Option AV} (ha : σ.hp a = some (.inst d)) (hd : σ.hp d = some (.sd v0 v1 v2 v3)) :
    ∃ des n, InstAt s.heap a (instObj P.cS d) P.cS (some (dictOf des n)) ∧ s.heap.get? d = some (dictOf des n) ∧ des.any (·.refKey) = false ∧ des.length ≤ cnt v0 + cnt v1 + cnt v2 + cnt v3 ∧ (∀ k, k < 4 → fieldIs des (sName k) ((AObj.sd v0 v1 v2 v3).fld k)) ∧
      ∀ x : Str, x ≠ "_node2info" → x ≠ "_ready_nodes" → x ≠ "_npassedout" → x ≠ "_nfinished" → getL x des = some none := by
  obtain ⟨des, n, e, h1, h2, f0, f1, f2, f3, hx⟩ := (R.hp d _ hd).1
  have ea : s.heap.get? a = some (instObj P.cS d) := (R.hp a _ ha).1
  refine ⟨des, n, ⟨ea, rfl, rfl, e⟩, e, h1, h2, fun k hk => ?_, hx⟩
  match k, hk with
  | 0, _ => exact f0
  | 1, _ => exact f1
  | 2, _ => exact f2
  | 3, _ => exact f3
  | k + 4, h => (first | lia | omega)

/-- a sorter's field -/
noncomputable def opAttrS (k : Nat) : AV → EP
  | .ref a => fun Q _ σ => ∃ d o v, σ.hp a = some (.inst d) ∧ σ.hp d = some o ∧ o.fld k = some v ∧ Q v σ
  | _ => fun _ _ _ => False
theorem op_attrS {F : FX} (hP : POk P) (O : FOk P D F) {k : Nat} (hk : k < 4) {a : AV} {u : Value} (ha : a.rep u) {b : Bool} : OpSim P D F (getAttr u (sName k) b) (opAttrS k a) := by
  intro σ s Q E R h
  cases a <;> try exact h.elim
  subst ha
  obtain ⟨d, o, v, h1, h2, h3, h4⟩ := h
  cases o <;> simp only [AObj.fld] at h3 <;> try cases h3
  obtain ⟨des, n, I, e, _, _, hf, _⟩ := inst_at R h1 h2
  have hfk := hf k hk
  have e3 : (AObj.sd _ _ _ _).fld k = some v := h3
  rw [e3] at hfk
  obtain ⟨u', g1, g2⟩ := hfk
  obtain ⟨m, Fm⟩ := R.frG O
  obtain ⟨p1, p2, _⟩ := hP.sGet k hk
  exact get_own Fm O.X I p1 hP.sDict p2 rfl g1 (rep_handed g2) ⟨v, σ, g2, R.toks, h4⟩

theorem getL_put {x y : Str} {hsh : Int} {t : Tok} {v : Value} : ∀ (des : List DictEntry), des.any (·.refKey) = false → getL x (putL y hsh (.str y t) v des) = if x = y then some (some v) else getL x des
  | [], _ => by
    unfold putL getL
    by_cases h : x = y
    · subst h
      have : (Value.str x t).isStr x = true := by simp [Value.isStr]
      simp [List.find?_cons, this]
    · have : (Value.str y t).isStr x = false := by simp [Value.isStr, Ne.symm h]
      simp [List.find?_cons, this, h, DictEntry.refKey]
  | e :: r, hr => by
    rw [List.any_cons, Bool.or_eq_false_iff] at hr
    unfold putL
    by_cases hy : e.key.isStr y = true
    · rw [if_pos hy]
      obtain ⟨t', hk⟩ : ∃ t', e.key = .str y t' := by
        cases hke : e.key <;> rw [hke] at hy <;> simp [Value.isStr] at hy
        exact ⟨_, by rw [hy]⟩
      unfold getL
      by_cases h : x = y
      · subst h
        simp [List.find?_cons, hy]
      · have h1 : e.key.isStr x = false := by rw [hk]; simp [Value.isStr, Ne.symm h]
        simp only [List.find?_cons, h1, if_neg h]
        have : (DictEntry.refKey { hash := e.hash, key := e.key, val := v }) = e.refKey := rfl
        simp only [List.any_cons, this]
        rfl
    · rw [if_neg hy]
      have ih := getL_put (x := x) (y := y) (hsh := hsh) (t := t) (v := v) r hr.2
      unfold getL at ih ⊢
      simp only [List.find?_cons, List.any_cons, hr.1, Bool.false_or]
      cases hx : e.key.isStr x with
      | true =>
        by_cases h : x = y
        · subst h; exact absurd hx hy
        · simp [h]
      | false => simpa using ih

theorem put_noref {y : Str} {hsh : Int} {t : Tok} {v : Value} : ∀ (des : List DictEntry), des.any (·.refKey) = false → (putL y hsh (.str y t) v des).any (·.refKey) = false
  | [], _ => by simp [putL, DictEntry.refKey]
  | e :: r, hr => by
    rw [List.any_cons, Bool.or_eq_false_iff] at hr
    unfold putL
    split
    · rw [List.any_cons, Bool.or_eq_false_iff]; exact ⟨hr.1, hr.2⟩
    · rw [List.any_cons, Bool.or_eq_false_iff]; exact ⟨hr.1, put_noref r hr.2⟩


theorem put_len {y : Str} {hsh : Int} {k v : Value} : ∀ (des : List DictEntry), (putL y hsh k v des).length ≤ des.length + 1
  | [] => by simp [putL]
  | e :: r => by
    unfold putL
    split
    · simp
    · have := put_len (y := y) (hsh := hsh) (k := k) (v := v) r
      simp only [List.length_cons]; (first | lia | omega)
theorem put_len_same {y : Str} {hsh : Int} {k v : Value} : ∀ (des : List DictEntry), des.any (·.key.isStr y) = true → (putL y hsh k v des).length = des.length
  | [], h => by simp at h
  | e :: r, h => by
    unfold putL
    split
    · simp
    · rename_i hn
      simp only [List.any_cons, Bool.or_eq_true] at h
      have := put_len_same (y := y) (hsh := hsh) (k := k) (v := v) r (h.resolve_left hn)
      simp only [List.length_cons]; (first | lia | omega)

theorem nodup_split {d : Addr} {o : Obj} : ∀ {l : List (Addr × Obj)}, (l.map (·.1)).Nodup → (d, o) ∈ l → ∃ pre post, l = pre ++ (d, o) :: post ∧ (∀ p ∈ pre, p.1 ≠ d) ∧ ∀ p ∈ post, p.1 ≠ d := by
  intro l hn hm
  obtain ⟨pre, post, rfl⟩ := List.append_of_mem hm
  refine ⟨pre, post, rfl, fun p hp e => ?_, fun p hp e => ?_⟩
  · rw [List.map_append, List.map_cons, List.nodup_append] at hn
    exact hn.2.2 p.1 (List.mem_map_of_mem hp) d (List.mem_cons_self ..) e
  · rw [List.map_append, List.map_cons, List.nodup_append] at hn
    exact (List.nodup_cons.mp hn.2.1).1 (List.mem_map.mpr ⟨p, hp, e⟩)
theorem allBut_keys (L : Addr) (h : Heap) : ∀ (l : List Nat), l.Nodup → ((l.filterMap fun a => if a = L then none else (h.get? a).map (a, ·)).map (·.1)).Nodup ∧ ∀ p ∈ (l.filterMap fun a => if a = L then none else (h.get? a).map (a, ·)), p.1 ∈ l
  | [], _ => ⟨.nil, fun _ h => by simp at h⟩
  | a :: l, hn => by
    obtain ⟨h1, h2⟩ := List.nodup_cons.mp hn
    obtain ⟨i1, i2⟩ := allBut_keys L h l h2
    rw [List.filterMap_cons]
    split
    · exact ⟨i1, fun p hp => List.mem_cons_of_mem _ (i2 p hp)⟩
    · rename_i b e
      have eb : b.1 = a := by
        split at e
        · cases e
        · obtain ⟨o, _, e2⟩ := Option.map_eq_some_iff.mp e
          rw [← e2]
      refine ⟨?_, fun p hp => ?_⟩
      · rw [List.map_cons, List.nodup_cons]
        refine ⟨fun hm => ?_, i1⟩
        obtain ⟨p, hp, e3⟩ := List.mem_map.mp hm
        exact h1 (eb ▸ e3 ▸ i2 p hp)
      · rcases List.mem_cons.mp hp with rfl | hp
        · rw [eb]; exact List.mem_cons_self ..
        · exact List.mem_cons_of_mem _ (i2 p hp)
theorem allBut_nodup (L : Addr) (h : Heap) : ((allBut L h).map (·.1)).Nodup := (allBut_keys L h _ List.nodup_range).1

/-- behind a rule that hands on every object, one of them turned -/
theorem Rel.turned {F : FX} {σ : St} {s : Shared} (R : Rel P D F σ s) (O : FOk P D F) {m : Str → Option Value} {h' : Heap} {ob ob' : Obj} {o o' : AObj} {t : Nat} {a : Addr} {pre post : List (Addr × Obj)} (hm : s.heap.Ns F.L m) (F' : Fr noHeap F.L h' m)
    (hsp : allBut F.L s.heap = pre ++ (a, ob) :: post) (N' : News noHeap F.L h' (pre ++ (a, ob') :: post)) (ha : σ.hp a = some o) (hf : o.frozen = false) (hf' : o'.frozen = false)
    (ho : h'.get? a = some ob' → o'.at P h' a) : Rel P D F ⟨σ.loc, upd σ.hp a o'⟩ { s with heap := h', toks := t } := by
  refine R.changeL O (fun b => b = a) (fun b e => e ▸ R.free ha hf) (fun m' hm' => ns_unique hm' hm ▸ F'.ns) (fun b ox hb ne e => ?_) fun b o₂ e => ?_
  · have hmem := mem_all ne e
    rw [hsp] at hmem
    rcases List.mem_append.mp hmem with h1 | h1
    · exact (N' _ (List.mem_append_left _ h1)).1
    · rcases List.mem_cons.mp h1 with h2 | h2
      · exact absurd (congrArg Prod.fst h2) hb
      · exact (N' _ (List.mem_append_right _ (List.mem_cons_of_mem _ h2))).1
  · unfold upd at e
    split at e
    · rename_i q; subst q; cases e
      exact .inr ⟨R.free ha hf, hf', ho (N' _ (List.mem_append_right _ (List.mem_cons_self ..))).1⟩
    · rename_i q; exact .inl ⟨e, q⟩

noncomputable def USim (P : PC) (D : FD) (F : FX) (t : Sem Unit) (p : SP) : Prop := ∀ σ s Q E, Rel P D F σ s → p Q E σ → wpAny (model P.prog P.w) F.A t (fun _ s' => ∃ σ', Rel P D F σ' s' ∧ Q .next σ') (RX P D F E) s

/-- storing a sorter's field -/
noncomputable def opSetS (k : Nat) : AV → AV → SP
  | .ref a, v => fun Q _ σ => ∃ d o, σ.hp a = some (.inst d) ∧ σ.hp d = some o ∧ (∃ v0 v1 v2 v3, o = .sd v0 v1 v2 v3) ∧ Q .next ⟨σ.loc, upd σ.hp d (o.setFld k v)⟩
  | _, _ => fun _ _ _ => False

theorem fieldIs_put {x y : Str} {hsh : Int} {t : Tok} {u : Value} {des : List DictEntry} (hr : des.any (·.refKey) = false) {w : Option AV} (hf : fieldIs des x w) (ne : x ≠ y) : fieldIs (putL y hsh (.str y t) u des) x w := by
  cases w with
  | none => unfold fieldIs at hf ⊢; simp only at hf ⊢; rw [getL_put _ hr, if_neg ne]; exact hf
  | some w => unfold fieldIs at hf ⊢; simp only at hf ⊢; obtain ⟨u', h1, h2⟩ := hf; exact ⟨u', by rw [getL_put _ hr, if_neg ne]; exact h1, h2⟩
theorem fieldIs_self {y : Str} {hsh : Int} {t : Tok} {u : Value} {des : List DictEntry} (hr : des.any (·.refKey) = false) {v : AV} (hv : v.rep u) : fieldIs (putL y hsh (.str y t) u des) y (some v) :=
  ⟨u, by rw [getL_put _ hr, if_pos rfl], hv⟩


theorem any_of_getL {y : Str} {u : Value} {des : List DictEntry} (h : getL y des = some (some u)) : des.any (·.key.isStr y) = true := by
  unfold getL at h
  split at h
  · rename_i e he
    exact List.any_eq_true.mpr ⟨e, List.mem_of_find?_eq_some he, by simpa using List.find?_some he⟩
  · split at h <;> cases h

theorem put_cnt {y : Str} {hsh : Int} {k u : Value} {des : List DictEntry} {w : Option AV} {n : Nat} (hf : fieldIs des y w) (hn : des.length ≤ cnt w + n) : (putL y hsh k u des).length ≤ 1 + n := by
  cases w with
  | none => have := put_len (y := y) (hsh := hsh) (k := k) (v := u) des; simp only [cnt] at hn; (first | lia | omega)
  | some w =>
    obtain ⟨u', h1, _⟩ := hf
    have := put_len_same (y := y) (hsh := hsh) (k := k) (v := u) des (any_of_getL h1)
    simp only [cnt] at hn; (first | lia | omega)

theorem sd_put {h' : Heap} {d : Addr} {des : List DictEntry} {n : Nat} {v0 v1 v2 v3 : Option AV} {hsh : Int} {t : Tok} {k : Nat} (hk : k < 4) {v : AV} {u : Value} (hv : v.rep u) (hr : des.any (·.refKey) = false) (hl : des.length ≤ cnt v0 + cnt v1 + cnt v2 + cnt v3)
    (hf : ∀ k, k < 4 → fieldIs des (sName k) ((AObj.sd v0 v1 v2 v3).fld k)) (hx : ∀ x : Str, x ≠ "_node2info" → x ≠ "_ready_nodes" → x ≠ "_npassedout" → x ≠ "_nfinished" → getL x des = some none)
    (e : h'.get? d = some (dictOf (putL (sName k) hsh (.str (sName k) t) u des) n)) : ((AObj.sd v0 v1 v2 v3).setFld k v).at P h' d := by
  have h0 := hf 0 (by decide); have h1 := hf 1 (by decide); have h2 := hf 2 (by decide); have h3 := hf 3 (by decide)
  match k, hk with
  | 0, _ =>
    refine ⟨_, n, e, put_noref _ hr, ?_, fieldIs_self hr hv, fieldIs_put hr h1 (by decide), fieldIs_put hr h2 (by decide), fieldIs_put hr h3 (by decide), fun x a b c d => ?_⟩
    · have := put_cnt (hsh := hsh) (k := .str (sName 0) t) (u := u) (n := cnt v1 + cnt v2 + cnt v3) h0 (by simp only [AObj.fld]; (first | lia | omega))
      rw [show cnt (some v) = 1 from rfl]; (first | lia | omega)
    · rw [getL_put _ hr, if_neg (by exact a)]; exact hx x a b c d
  | 1, _ =>
    refine ⟨_, n, e, put_noref _ hr, ?_, fieldIs_put hr h0 (by decide), fieldIs_self hr hv, fieldIs_put hr h2 (by decide), fieldIs_put hr h3 (by decide), fun x a b c d => ?_⟩
    · have := put_cnt (hsh := hsh) (k := .str (sName 1) t) (u := u) (n := cnt v0 + cnt v2 + cnt v3) h1 (by simp only [AObj.fld]; (first | lia | omega))
      rw [show cnt (some v) = 1 from rfl]; (first | lia | omega)
    · rw [getL_put _ hr, if_neg (by exact b)]; exact hx x a b c d
  | 2, _ =>
    refine ⟨_, n, e, put_noref _ hr, ?_, fieldIs_put hr h0 (by decide), fieldIs_put hr h1 (by decide), fieldIs_self hr hv, fieldIs_put hr h3 (by decide), fun x a b c d => ?_⟩
    · have := put_cnt (hsh := hsh) (k := .str (sName 2) t) (u := u) (n := cnt v0 + cnt v1 + cnt v3) h2 (by simp only [AObj.fld]; (first | lia | omega))
      rw [show cnt (some v) = 1 from rfl]; (first | lia | omega)
    · rw [getL_put _ hr, if_neg (by exact c)]; exact hx x a b c d
  | 3, _ =>
    refine ⟨_, n, e, put_noref _ hr, ?_, fieldIs_put hr h0 (by decide), fieldIs_put hr h1 (by decide), fieldIs_put hr h2 (by decide), fieldIs_self hr hv, fun x a b c d => ?_⟩
    · have := put_cnt (hsh := hsh) (k := .str (sName 3) t) (u := u) (n := cnt v0 + cnt v1 + cnt v2) h3 (by simp only [AObj.fld]; (first | lia | omega))
      rw [show cnt (some v) = 1 from rfl]; (first | lia | omega)
    · rw [getL_put _ hr, if_neg (by exact d)]; exact hx x a b c d

theorem frozen_setFld {o : AObj} {k : Nat} {v : AV} (h : o.frozen = false) : (o.setFld k v).frozen = false := by
  cases o <;> try exact h
  match k with
  | 0 => rfl
  | 1 => rfl
  | 2 => rfl
  | _ + 3 => rfl

theorem op_setS {F : FX} (hP : POk P) (O : FOk P D F) {k : Nat} (hk : k < 4) {a b : AV} {u v : Value} (ha : a.rep u) (hb : b.rep v) : USim P D F (setAttr u (sName k) v) (opSetS k a b) := by
  intro σ s Q E R h
  cases a <;> try exact h.elim
  rename_i a
  subst ha
  obtain ⟨d, o, h1, h2, ⟨v0, v1, v2, v3, rfl⟩, h4⟩ := h
  obtain ⟨des, n, I, e, hr, hl, hf, hx⟩ := inst_at R h1 h2
  obtain ⟨m, Fm, hm⟩ := R.fr
  have X := O.kin R
  have hdL : d ≠ F.L := (R.free h2 rfl).L
  obtain ⟨pre, post, hsp, q1, q2⟩ := nodup_split (allBut_nodup F.L s.heap) (mem_all hdL e)
  have N := news_all F.L s.heap
  rw [hsp] at N
  refine set_plain X I hP.sSet ?_
  refine osa_dict (s := { s with toks := s.toks + 1 }) Fm N X I rfl hP.sOver (hP.sGet k hk).2.2 hP.sDict ?_ q1 q2 (putName_dict _ _ _ _ _ _) rfl ?_ fun h' F' N' => ?_
  · unfold lookIn
    show (match des.toArray.toList.find? _ with | some e => some (some e.val) | none => if des.toArray.toList.any _ then none else some none).isSome = true
    split
    · rfl
    · rename_i hn
      have : (des.toArray.toList.any fun x => x.refKey) = false := hr
      rw [this]; rfl
  · have := put_len (y := sName k) (hsh := PyData.keyHash P.w.params (sName k)) (k := .str (sName k) (s.toks + 1)) (v := v) des
    have c0 : cnt v0 ≤ 1 := by cases v0 <;> simp [cnt]
    have c1 : cnt v1 ≤ 1 := by cases v1 <;> simp [cnt]
    have c2 : cnt v2 ≤ 1 := by cases v2 <;> simp [cnt]
    have c3 : cnt v3 ≤ 1 := by cases v3 <;> simp [cnt]
    simp only []
    (first | lia | omega)
  · exact ⟨_, R.turned O (t := s.toks + 1 + 1) hm F' hsp N' h2 rfl (frozen_setFld rfl) (fun e' => sd_put hk hb hr hl hf hx e'), h4⟩

-- records
theorem rcd_at {F : FX} {σ : St} {s : Shared} (R : Rel P D F σ s) {a d : Addr} {vs : List (Option AV)} {v0 v1 v2 v3 : Option AV} (ha : σ.hp a = some (.rcd d vs)) (hd : σ.hp d = some (.sd v0 v1 v2 v3)) :
    ∃ us : List (Option Value), ∃ od, InstAt s.heap a { instObj P.cN d with slots := us.toArray } P.cN (some od) ∧ OReps vs us ∧ s.heap.get? a = some { instObj P.cN d with slots := us.toArray } := by
  obtain ⟨des, n, e, _⟩ := (R.hp d _ hd).1
  obtain ⟨us, ea, r⟩ := (R.hp a _ ha).1
  exact ⟨us, _, ⟨ea, rfl, rfl, e⟩, r, ea⟩
theorem OReps.get : ∀ {l : List (Option AV)} {vs : List (Option Value)} (i : Nat) {a : AV}, OReps l vs → l[i]? = some (some a) → ∃ v, vs[i]? = some (some v) ∧ a.rep v
  | [], [], _, _, _, h => by simp at h
  | none :: l, v :: vs, 0, b, _, e => by simp at e
  | some a :: l, v :: vs, 0, b, ⟨⟨u, h1, h2⟩, _⟩, e => by simp at e; subst e h1; exact ⟨u, rfl, h2⟩
  | none :: l, v :: vs, i + 1, b, ⟨_, r⟩, e => by simpa using OReps.get i r (by simpa using e)
  | some a :: l, v :: vs, i + 1, b, ⟨_, r⟩, e => by simpa using OReps.get i r (by simpa using e)
  | [], _ :: _, _, _, h, _ => h.elim
  | none :: _, [], _, _, h, _ => h.elim
  | some _ :: _, [], _, _, h, _ => h.elim
theorem OReps.length : ∀ {l : List (Option AV)} {vs : List (Option Value)}, OReps l vs → l.length = vs.length
  | [], [], _ => rfl
  | none :: _, _ :: _, ⟨_, h⟩ => congrArg (· + 1) (OReps.length h)
  | some _ :: _, _ :: _, ⟨_, h⟩ => congrArg (· + 1) (OReps.length h)
  | [], _ :: _, h => h.elim
  | none :: _, [], h => h.elim
  | some _ :: _, [], h => h.elim
theorem OReps.set : ∀ {l : List (Option AV)} {vs : List (Option Value)} (n : Nat) {a : AV} {v : Value}, OReps l vs → a.rep v → OReps (l.set n (some a)) (vs.set n (some v))
  | [], [], _, _, _, _, _ => trivial
  | none :: _, _ :: _, 0, _, _, ⟨_, r⟩, q => ⟨⟨_, rfl, q⟩, r⟩
  | some _ :: _, _ :: _, 0, _, _, ⟨_, r⟩, q => ⟨⟨_, rfl, q⟩, r⟩
  | none :: _, _ :: _, n + 1, _, _, ⟨h, r⟩, q => ⟨h, OReps.set n r q⟩
  | some _ :: _, _ :: _, n + 1, _, _, ⟨h, r⟩, q => ⟨h, OReps.set n r q⟩
  | [], _ :: _, _, _, _, h, _ => h.elim
  | none :: _, [], _, _, _, h, _ => h.elim
  | some _ :: _, [], _, _, _, h, _ => h.elim
theorem OReps.grow : ∀ {l : List (Option AV)} {vs : List (Option Value)} (k : Nat), OReps l vs → OReps (l ++ List.replicate k none) (vs ++ List.replicate k none)
  | [], [], 0, _ => trivial
  | [], [], k + 1, _ => ⟨rfl, OReps.grow (l := []) (vs := []) k trivial⟩
  | none :: _, _ :: _, k, ⟨h, r⟩ => ⟨h, OReps.grow k r⟩
  | some _ :: _, _ :: _, k, ⟨h, r⟩ => ⟨h, OReps.grow k r⟩
  | [], _ :: _, _, h => h.elim
  | none :: _, [], _, h => h.elim
  | some _ :: _, [], _, h => h.elim

noncomputable def isSd : Option AObj → Prop
  | some (.sd _ _ _ _) => True
  | _ => False
/-- a record's slot -/
noncomputable def opAttrN (k : Nat) : AV → EP
  | .ref a => fun Q _ σ => ∃ d vs v, σ.hp a = some (.rcd d vs) ∧ isSd (σ.hp d) ∧ vs[k]? = some (some v) ∧ Q v σ
  | _ => fun _ _ _ => False
theorem op_attrN {F : FX} (hP : POk P) (O : FOk P D F) {k : Nat} (hk : k < 3) {a : AV} {u : Value} (ha : a.rep u) {b : Bool} : OpSim P D F (getAttr u (nName k) b) (opAttrN k a) := by
  intro σ s Q E R h
  cases a <;> try exact h.elim
  subst ha
  obtain ⟨d, vs, v, h1, h2, h3, h4⟩ := h
  unfold isSd at h2
  split at h2 <;> try exact h2.elim
  rename_i e2
  obtain ⟨us, od, I, r, ea⟩ := rcd_at R h1 e2
  obtain ⟨u', g1, g2⟩ := r.get k h3
  obtain ⟨m, Fm⟩ := R.frG O
  obtain ⟨p, p1, p2, p3, p4, p5, _⟩ := hP.nSlot k hk
  refine get_slot Fm O.X I p1 hP.nCls p2 p3 p4 p5 ?_ (rep_handed g2) ⟨v, σ, g2, R.toks, h4⟩
  simp [g1]
noncomputable def opSetN (k : Nat) : AV → AV → SP
  | .ref a, v => fun Q _ σ => ∃ d vs, σ.hp a = some (.rcd d vs) ∧ isSd (σ.hp d) ∧ Q .next ⟨σ.loc, upd σ.hp a (.rcd d ((vs ++ List.replicate (k + 1 - vs.length) none).set k (some v)))⟩
  | _, _ => fun _ _ _ => False
theorem op_setN {F : FX} (hP : POk P) (O : FOk P D F) {k : Nat} (hk : k < 3) {a b : AV} {u v : Value} (ha : a.rep u) (hb : b.rep v) : USim P D F (setAttr u (nName k) v) (opSetN k a b) := by
  intro σ s Q E R h
  cases a <;> try exact h.elim
  rename_i a
  subst ha
  obtain ⟨d, vs, h1, h2, h4⟩ := h
  unfold isSd at h2
  split at h2 <;> try exact h2.elim
  rename_i e2
  obtain ⟨us, od, I, r, ea⟩ := rcd_at R h1 e2
  obtain ⟨p, p1, p2, p3, p4, p5, p6, p7⟩ := hP.nSlot k hk
  obtain ⟨m, Fm, hm⟩ := R.fr
  have X := O.kin R
  have haL : a ≠ F.L := (R.free h1 rfl).L
  obtain ⟨pre, post, hsp, q1, q2⟩ := nodup_split (allBut_nodup F.L s.heap) (mem_all haL ea)
  have N := news_all F.L s.heap
  rw [hsp] at N
  refine set_plain X I hP.nSet ?_
  refine osa_descr (s := { s with toks := s.toks + 1 }) KF.slot_mset X I hP.nOver p6 p7 ?_
  refine slot_set (s := { s with toks := s.toks + 1 }) (p := p) (i := k) Fm N X I p5 (by (first | lia | omega)) q1 q2 rfl rfl fun h' F' N' => ?_
  refine ⟨_, R.turned O (t := s.toks + 1) (o' := .rcd d ((vs ++ List.replicate (k + 1 - vs.length) none).set k (some b))) hm F' hsp N' h1 rfl rfl (fun e' => ⟨(us ++ List.replicate (k + 1 - us.length) none).set k (some v), e'.trans ?_, ?_⟩), h4⟩
  · simp only [List.size_toArray, Array.replicate, List.append_toArray, List.setIfInBounds_toArray]
  · rw [r.length]; exact (r.grow _).set k hb

end
end
section
section
variable {P : PC} {D : FD}

noncomputable abbrev RU (P : PC) (D : FD) (F : FX) (Q : Fl → St → Prop) : Unit → Shared → Prop := fun _ s' => ∃ σ', Rel P D F σ' s' ∧ Q .next σ'
/-- an assignment's target -/
noncomputable def SimA (P : PC) (D : FD) (t : Expr) (f : AV → SP) : Prop := ∀ F, FOk P D F → ∀ v u, v.rep u → ∀ σ s Q E, Rel P D F σ s → f v Q E σ → wpAny (model P.prog P.w) F.A (assign t F.env u) (RU P D F Q) (RX P D F E) s
noncomputable def aName (i : Nat) (v : AV) : SP := fun Q _ σ => Q .next ⟨setv σ.loc i v, σ.hp⟩

noncomputable def notCap : VK → Bool
  | .cap => false
  | _ => true

theorem store_sim {F : FX} (O : FOk P D F) {x : Str} {i : Nat} {k : VK} (hi : D.vars[i]? = some (x, k)) (hk : notCap k = true) {v : AV} {u : Value} (hv : v.rep u) {σ : St} {s : Shared} {Q : Fl → St → Prop} {E : Ex → St → Prop} (R : Rel P D F σ s) (h : aName i v Q E σ) :
    wpAny (model P.prog P.w) F.A (storeName F.env x u) (RU P D F Q) (RX P D F E) s := by
  have hm := List.mem_of_getElem? hi
  cases k with
  | loc =>
    obtain ⟨m, hn, hl⟩ := R.ns
    refine wpAny_storeName_local (O.loc x hm) (by rw [O.locals]; exact hn) (fun h' h1 h2 => ⟨_, R.setLoc O hi hv hl (by rw [← O.locals]; exact h1) (by rw [← O.locals]; exact h2), h⟩) ?_
    rw [O.fn]; rfl
  | cell =>
    obtain ⟨hk, c, hc, _⟩ := O.cell x hm
    obtain ⟨_, u', hu, hq⟩ := R.cell i x hi c hc
    exact wpAny_storeName_cell O.fn hk hc hu fun h' h1 h2 => ⟨_, R.setCell O hi hv hc h1 h2, h⟩
  | cap => cases hk

theorem sim_aName {x : Str} {pos : Pos} {i : Nat} {k : VK} (hi : D.vars[i]? = some (x, k)) (hk : notCap k = true := by rfl) : SimA P D (.Name x pos) (aName i) :=
  fun _ O _ _ hv _ _ _ _ R h => wpAny_assign_Name (store_sim O hi hk hv R h)

/-- several names -/
noncomputable def setvs : (Nat → Option AV) → List Nat → List AV → (Nat → Option AV)
  | l, i :: is, v :: vs => setvs (setv l i v) is vs
  | l, _, _ => l
noncomputable def NamesAre (D : FD) : List Expr → List Nat → Prop
  | [], [] => True
  | .Name x _ :: ts, i :: is => (∃ k, D.vars[i]? = some (x, k) ∧ notCap k = true) ∧ NamesAre D ts is
  | _, _ => False

theorem NamesAre.nil_inv {ts : List Expr} (h : NamesAre D ts []) : ts = [] := by
  cases ts with
  | nil => rfl
  | cons t ts => cases t <;> exact h.elim
theorem NamesAre.cons_inv {ts : List Expr} {i : Nat} {is : List Nat} (h : NamesAre D ts (i :: is)) : ∃ x p ts', ts = .Name x p :: ts' ∧ (∃ k, D.vars[i]? = some (x, k) ∧ notCap k = true) ∧ NamesAre D ts' is := by
  cases ts with
  | nil => exact h.elim
  | cons t ts => cases t <;> first | exact ⟨_, _, _, rfl, h.1, h.2⟩ | exact h.elim
theorem assign_names {F : FX} (O : FOk P D F) {is : List Nat} : ∀ {ts : List Expr} (_ : NamesAre D ts is) {vs : List AV} {us : List Value} (_ : Reps vs us) (_ : vs.length = is.length) {σ : St} {s : Shared} {Q : Fl → St → Prop} {E : Ex → St → Prop}
    (_ : Rel P D F σ s) (_ : Q .next ⟨setvs σ.loc is vs, σ.hp⟩), wpAny (model P.prog P.w) F.A (assignInOrder ((assignEach ts F.env).map (·.2)) us) (RU P D F Q) (RX P D F E) s := by
  induction is with
  | nil =>
    intro ts hn vs us hr hl σ s Q E R h
    cases hn.nil_inv
    cases List.length_eq_zero_iff.mp hl
    cases hr.nil_inv
    exact wpAny_assignInOrder_none ⟨σ, R, h⟩
  | cons i is ih =>
    intro ts hn vs us hr hl σ s Q E R h
    obtain ⟨x, p, ts, rfl, ⟨k, hi, hk⟩, hn⟩ := hn.cons_inv
    cases vs with
    | nil => cases hl
    | cons v vs =>
      obtain ⟨u, us, rfl, hv, hr⟩ := hr.cons_inv
      refine wpAny_assignInOrder_more (wpAny_mono (sim_aName (pos := p) hi hk F O v u hv σ s (fun _ σ' => σ' = ⟨setv σ.loc i v, σ.hp⟩) (E := E) R rfl) ?_ fun _ _ x => x)
      rintro _ s₁ ⟨σ₁, R₁, rfl⟩
      exact ih hn hr (Nat.succ.inj hl) R₁ h

theorem each_len {is : List Nat} : ∀ {ts : List Expr} (_ : NamesAre D ts is) (env : Env), (assignEach ts env).length = is.length ∧ (assignEach ts env).findIdx? (·.1) = none := by
  induction is with
  | nil => intro ts hn env; cases hn.nil_inv; exact ⟨rfl, rfl⟩
  | cons i is ih =>
    intro ts hn env
    obtain ⟨x, p, ts, rfl, _, hn⟩ := hn.cons_inv
    obtain ⟨h1, h2⟩ := ih hn env
    refine ⟨congrArg (· + 1) h1, ?_⟩
    show ((false, assign (.Name x p) env) :: assignEach ts env).findIdx? (·.1) = none
    rw [List.findIdx?_cons]; simp [h2]

noncomputable def aTuple (is : List Nat) : AV → SP
  | .ref a => fun Q _ σ => ∃ vs, σ.hp a = some (.tup vs) ∧ vs.length = is.length ∧ Q .next ⟨setvs σ.loc is vs, σ.hp⟩
  | _ => fun _ _ _ => False
theorem sim_aTuple {ts : List Expr} {k : Nat} {pos : Pos} {is : List Nat} (hn : NamesAre D ts is) (hc : D.calm = true := by rfl) : SimA P D (.Tuple ts k pos) (aTuple is) := by
  intro F O v u hv σ s Q E R h
  cases v <;> try exact h.elim
  subst hv
  obtain ⟨vs, h1, h2, h3⟩ := h
  obtain ⟨us, n, e1, r, _⟩ := R.tup h1
  obtain ⟨l1, l2⟩ := each_len hn F.env
  refine wpAny_assign_Tuple (items := us.toArray) (O.hh hc) ⟨_, e1, rfl, n, rfl⟩ ?_ l2 fun h' hx => ?_
  · rw [l1, ← h2, r.length, List.size_toArray]
  · exact assign_names O hn r h2 (R.ext (t := s.toks) fun b o e => hx b o (fun q => by rw [q, heap_size_none] at e; cases e) e) h3

-- statements
noncomputable def sAssign (p : EP) (f : AV → SP) : SP := fun Q E σ => p (fun v σ' => f v Q E σ') E σ
theorem flow_next {F : FX} {Q : Fl → St → Prop} {s : Shared} (h : ∃ σ', Rel P D F σ' s ∧ Q .next σ') : RF P D F Q .next s := let ⟨σ', R, q⟩ := h; ⟨.next, σ', rfl, R, q⟩

theorem sim_assign {t value : Expr} {pos : Pos} {p : EP} {f : AV → SP} (h : SimE P D value p) (ht : SimA P D t f)
    (he : ∀ env, (assignEach [t] env).map (·.2) = [assign t env] := by intro _; rfl) (hs : ∀ env, swapsWithSole [t] value pos.line env = pure false := by intro _; rfl) (hw : ∀ env, swappedStores [t] value env = pure none := by intro _; rfl) :
    SimS P D (.Assign [t] value pos) (sAssign p f) := by
  intro F O σ s Q E R hp
  refine wpAny_Assign_stores (wpAny_mono (h F O σ s _ E R hp) ?_ fun _ _ x => x) (hs _) (hw _)
  rintro u s₁ ⟨v, σ₁, hv, R₁, h₁⟩
  rw [he]
  exact wpAny_mono (ht F O v u hv σ₁ s₁ Q E R₁ h₁) (fun _ _ x => flow_next x) fun _ _ x => x
theorem sim_assign2 {t₁ t₂ value : Expr} {pos : Pos} {p : EP} {f g : AV → SP} (h : SimE P D value p) (h1 : SimA P D t₁ f) (h2 : SimA P D t₂ g)
    (he : ∀ env, (assignEach [t₁, t₂] env).map (·.2) = [assign t₁ env, assign t₂ env] := by intro _; rfl) (hw : ∀ env, swappedStores [t₁, t₂] value env = pure none := by intro _; rfl) :
    SimS P D (.Assign [t₁, t₂] value pos) (sAssign p fun v Q E σ => f v (fun _ σ' => g v Q E σ') E σ) := by
  intro F O σ s Q E R hp
  refine wpAny_Assign_two (wpAny_mono (h F O σ s _ E R hp) ?_ fun _ _ x => x) (he _) (hw _)
  rintro u s₁ ⟨v, σ₁, hv, R₁, hh⟩
  refine wpAny_mono (h1 F O v u hv σ₁ s₁ _ E R₁ hh) ?_ fun _ _ x => x
  rintro _ s₂ ⟨σ₂, R₂, hh₂⟩
  exact wpAny_mono (h2 F O v u hv σ₂ s₂ Q E R₂ hh₂) (fun _ _ x => flow_next x) fun _ _ x => x

-- two names at once from a written pair: stored from behind
noncomputable def starE : Expr → Bool
  | .Starred .. => true
  | _ => false
noncomputable def aSwap (is : List Nat) (vs : List AV) : SP := fun Q _ σ => Q .next ⟨setvs σ.loc is.reverse vs.reverse, σ.hp⟩
noncomputable def sSwap (q : LP) (is : List Nat) : SP := fun Q E σ => q (fun vs σ' => vs.length = is.length ∧ ∀ a, σ'.hp a = none → Q .next ⟨setvs σ'.loc is.reverse vs.reverse, upd σ'.hp a (.tup vs)⟩) E σ

theorem binds_sim {F : FX} (O : FOk P D F) : ∀ {xs : List Str} {is : List Nat} (_ : xs.length = is.length) (_ : ∀ (j : Nat) (x : Str) (i : Nat), xs[j]? = some x → is[j]? = some i → ∃ k, D.vars[i]? = some (x, k) ∧ notCap k = true) {vs : List AV} {us : List Value} (_ : Reps vs us) (_ : vs.length = is.length)
    {σ : St} {s : Shared} {Q : Fl → St → Prop} {E : Ex → St → Prop} (_ : Rel P D F σ s) (_ : Q .next ⟨setvs σ.loc is vs, σ.hp⟩), wpAny (model P.prog P.w) F.A (assignInOrder (xs.map fun n => bindName F.env n) us) (RU P D F Q) (RX P D F E) s
  | [], [], _, _, [], [], _, _, σ, s, Q, E, R, h => wpAny_assignInOrder_none ⟨σ, R, h⟩
  | x :: xs, i :: is, hl, hx, v :: vs, u :: us, ⟨hv, hr⟩, hl', σ, s, Q, E, R, h => by
    obtain ⟨k, hi, hk⟩ := hx 0 x i rfl rfl
    refine wpAny_assignInOrder_more (wpAny_bindName (wpAny_mono (store_sim O hi hk hv (Q := fun _ σ' => σ' = ⟨setv σ.loc i v, σ.hp⟩) (E := E) R rfl) ?_ fun _ _ x => x))
    rintro _ s₁ ⟨σ₁, R₁, rfl⟩
    exact binds_sim O (by simpa using hl) (fun j x i h1 h2 => hx (j + 1) x i (by simpa using h1) (by simpa using h2)) hr (by simpa using hl') R₁ h
  | [], _ :: _, hl, _, _, _, _, _, _, _, _, _, _, _ => by simp at hl
  | _ :: _, [], hl, _, _, _, _, _, _, _, _, _, _, _ => by simp at hl
  | [], [], _, _, _ :: _, _, _, hl, _, _, _, _, _, _ => by simp at hl
  | [], [], _, _, [], _ :: _, hr, _, _, _, _, _, _, _ => hr.elim
  | _ :: _, _ :: _, _, _, [], _, _, hl, _, _, _, _, _, _ => by simp at hl
  | _ :: _, _ :: _, _, _, _ :: _, [], hr, _, _, _, _, _, _, _ => hr.elim

theorem Reps.reverse : ∀ {l : List AV} {vs : List Value}, Reps l vs → Reps l.reverse vs.reverse
  | [], [], _ => trivial
  | a :: l, v :: vs, ⟨h, r⟩ => by rw [List.reverse_cons, List.reverse_cons]; exact (Reps.reverse r).append ⟨h, trivial⟩
  | [], _ :: _, h => h.elim
  | _ :: _, [], h => h.elim

end
end
section
section
variable {P : PC} {D : FD}

noncomputable def storedA (es : List (Int × AV)) (k : Int) (v : AV) : List (Int × AV) :=
  if es.any (fun e => e.1 = k) then es.map (fun e => if e.1 = k then (e.1, v) else e) else es ++ [(k, v)]

noncomputable def opSetItem : AV → AV → AV → SP
  | .ref a, .int k, v => fun Q _ σ => (∃ l, σ.hp a = some (.list l) ∧ 0 ≤ k ∧ k < l.length ∧ Q .next ⟨σ.loc, upd σ.hp a (.list (l.set k.toNat v))⟩) ∨
      (∃ es ep, σ.hp a = some (.dict es ep) ∧ es.length < 1000000 ∧ ∀ ep', Q .next ⟨σ.loc, upd σ.hp a (.dict (storedA es k v) ep')⟩)
  | _, _, _ => fun _ _ _ => False

theorem turned_es (k : Int) {v : AV} {u : Value} (hv : v.rep u) : ∀ {es : List (Int × AV)} {kvs : List (Int × Value)}, dictEs es kvs → dictEs (es.map fun e => if e.1 = k then (e.1, v) else e) (kvs.map fun kv => if kv.1 = k then (kv.1, u) else kv)
  | [], [], _ => ⟨rfl, trivial⟩
  | e :: es, x :: kvs, ⟨h1, h2⟩ => by
    simp only [List.map_cons, List.cons.injEq] at h1
    obtain ⟨h5, h6⟩ := h2
    obtain ⟨g1, g2⟩ := turned_es k hv (es := es) (kvs := kvs) ⟨h1.2, h6⟩
    simp only [List.map_cons]
    rw [h1.1]
    by_cases hk : e.1 = k
    · rw [if_pos hk, if_pos hk]
      exact ⟨by simp only [List.map_cons]; rw [g1], hv, g2⟩
    · rw [if_neg hk, if_neg hk]
      exact ⟨by simp only [List.map_cons]; rw [g1, h1.1], h5, g2⟩
  | [], _ :: _, ⟨h1, _⟩ => by simp at h1
  | _ :: _, [], ⟨h1, _⟩ => by simp at h1
theorem stored_es {es : List (Int × AV)} {kvs : List (Int × Value)} (h : dictEs es kvs) (k : Int) {v : AV} {u : Value} (hv : v.rep u) : dictEs (storedA es k v) (stored kvs k u) := by
  have hany : es.any (fun e => e.1 = k) = kvs.any (fun kv => kv.1 = k) := by
    have h1 : es.any (fun e => decide (e.1 = k)) = (es.map (·.1)).any (fun x => decide (x = k)) := by rw [List.any_map]; rfl
    have h2 : kvs.any (fun e => decide (e.1 = k)) = (kvs.map (·.1)).any (fun x => decide (x = k)) := by rw [List.any_map]; rfl
    rw [h1, h2, h.1]
  unfold storedA stored
  rw [hany]
  split
  · exact turned_es k hv h
  · refine ⟨by rw [List.map_append, List.map_append, h.1]; rfl, ?_⟩
    rw [List.map_append, List.map_append]
    exact h.2.append ⟨hv, trivial⟩
theorem stored_len (es : List (Int × AV)) (k : Int) (v : AV) : (storedA es k v).length ≤ es.length + 1 := by
  unfold storedA
  split
  · simp
  · simp

theorem dictEs_len {es : List (Int × AV)} {kvs : List (Int × Value)} (h : dictEs es kvs) : kvs.length = es.length := by
  have := congrArg List.length h.1; simpa using this

theorem op_setItem {F : FX} {a b c : AV} {u v w : Value} (ha : a.rep u) (hb : b.rep v) (hc : c.rep w) : USim P D F (setItem u v w) (opSetItem a b c) := by
  intro σ s Q E R h
  cases a <;> cases b <;> try exact h.elim
  rename_i a k
  subst ha
  obtain ⟨t, rfl⟩ := hb
  rcases h with ⟨l, h1, h2, h3, h4⟩ | ⟨es, ep, h1, h2, h4⟩
  · obtain ⟨vs, n, e, r, hz⟩ := R.plain h1
    have hl := r.length
    refine ki_setAt e h2 (by (first | lia | omega)) (by rw [List.size_toArray]; (first | lia | omega)) ?_
    refine ⟨_, R.setList (vs' := vs.set k.toNat w) (t := s.toks) h1 e ?_ (r.set _ hc) (by rw [List.length_set]; exact hz), h4⟩
    simp
  · obtain ⟨kvs, hd, hes, hsys, hz⟩ := (R.hp a _ h1).1
    have hl := dictEs_len hes
    refine wpAny_setItem_pairs (knd := intKind P.prog P.w) (k := k) (by simp [intKind, Value.isInt]) hd.dictOf (fun h' hd' hs => ?_) (by rw [sizeLine_eq]; (first | lia | omega))
    obtain ⟨o, es', ep', q⟩ := hd'
    exact ⟨_, R.set (o' := .dict (storedA es k c) ep') h1 rfl hs rfl ⟨_, ⟨o, es', q⟩, stored_es hes k hc, hsys, by have := stored_len es k c; (first | lia | omega)⟩, h4 ep'⟩

noncomputable def aItem (o i : EP) (v : AV) : SP := fun Q E σ => o (fun ov σ₁ => i (fun iv σ₂ => opSetItem ov iv v Q E σ₂) E σ₁) E σ
theorem sim_aItem {o i : Expr} {pos : Pos} {po pi : EP} (ho : SimE P D o po) (hi : SimE P D i pi) : SimA P D (.Subscript o i pos) (aItem po pi) := by
  intro F O v u hv σ s Q E R h
  rw [arm_assign_Subscript]
  refine wpAny_bind (wpAny_holding (wpAny_mono (ho F O σ s _ E R h) ?_ fun _ _ x => x))
  rintro ov s₁ ⟨a, σ₁, ha, R₁, h₁⟩
  refine wpAny_bind (wpAny_holding (wpAny_mono (hi F O σ₁ s₁ _ E R₁ h₁) ?_ fun _ _ x => x))
  rintro iv s₂ ⟨b, σ₂, hb, R₂, h₂⟩
  refine wpAny_bind (wpAny_standAt (wpAny_bind (wpAny_holding (wpAny_mono (op_setItem ha hb hv σ₂ s₂ Q E R₂ h₂) ?_ fun _ _ x => x))))
  intro _ s₃ h₃
  exact wpAny_release h₃

noncomputable def aAttrS (k : Nat) (o : EP) (v : AV) : SP := fun Q E σ => o (fun ov σ₁ => opSetS k ov v Q E σ₁) E σ
noncomputable def aAttrN (k : Nat) (o : EP) (v : AV) : SP := fun Q E σ => o (fun ov σ₁ => opSetN k ov v Q E σ₁) E σ
theorem sim_aAttrS (hP : POk P) {o : Expr} {x : Str} {pos : Pos} {k : Nat} {po : EP} (ho : SimE P D o po) (hx : x = sName k := by rfl) (hk : k < 4 := by decide) : SimA P D (.Attribute o x pos) (aAttrS k po) := by
  intro F O v u hv σ s Q E R h
  rw [arm_assign_Attribute, hx]
  refine wpAny_bind (wpAny_holding (wpAny_mono (ho F O σ s _ E R h) ?_ fun _ _ x => x))
  rintro ov s₁ ⟨a, σ₁, ha, R₁, h₁⟩
  refine wpAny_bind (wpAny_standAt (wpAny_bind (wpAny_holding (wpAny_mono (op_setS hP O hk ha hv σ₁ s₁ Q E R₁ h₁) ?_ fun _ _ x => x))))
  intro _ s₃ h₃
  exact wpAny_release h₃
theorem sim_aAttrN (hP : POk P) {o : Expr} {x : Str} {pos : Pos} {k : Nat} {po : EP} (ho : SimE P D o po) (hx : x = nName k := by rfl) (hk : k < 3 := by decide) : SimA P D (.Attribute o x pos) (aAttrN k po) := by
  intro F O v u hv σ s Q E R h
  rw [arm_assign_Attribute, hx]
  refine wpAny_bind (wpAny_holding (wpAny_mono (ho F O σ s _ E R h) ?_ fun _ _ x => x))
  rintro ov s₁ ⟨a, σ₁, ha, R₁, h₁⟩
  refine wpAny_bind (wpAny_standAt (wpAny_bind (wpAny_holding (wpAny_mono (op_setN hP O hk ha hv σ₁ s₁ Q E R₁ h₁) ?_ fun _ _ x => x))))
  intro _ s₃ h₃
  exact wpAny_release h₃

-- reading attributes
noncomputable def notCall : Expr → Bool
  | .Call .. => false
  | _ => true
theorem sim_attrS (hP : POk P) {o : Expr} {x : Str} {pos : Pos} {k : Nat} {po : EP} (ho : SimE P D o po) (hx : x = sName k := by rfl) (hk : k < 4 := by decide)
    (he : ∀ env, eval (.Attribute o x pos) env = (do let v ← eval o env; standAt pos.atName; let r ← holding [v] (getAttr v x true); letTemporaryGo o v r; pure r) := by intro _; with_unfolding_all rfl) : SimE P D (.Attribute o x pos) (pUn (opAttrS k) po) := by
  intro F O σ s Q E R h
  refine Attribute_any_ (wpAny_mono (ho F O σ s _ E R h) ?_ fun _ _ x => x) (he _)
  rintro ov s₁ ⟨a, σ₁, ha, R₁, h₁⟩
  rw [hx]
  exact op_attrS hP O hk ha σ₁ s₁ Q E R₁ h₁
theorem sim_attrN (hP : POk P) {o : Expr} {x : Str} {pos : Pos} {k : Nat} {po : EP} (ho : SimE P D o po) (hx : x = nName k := by rfl) (hk : k < 3 := by decide)
    (he : ∀ env, eval (.Attribute o x pos) env = (do let v ← eval o env; standAt pos.atName; let r ← holding [v] (getAttr v x true); letTemporaryGo o v r; pure r) := by intro _; with_unfolding_all rfl) : SimE P D (.Attribute o x pos) (pUn (opAttrN k) po) := by
  intro F O σ s Q E R h
  refine Attribute_any_ (wpAny_mono (ho F O σ s _ E R h) ?_ fun _ _ x => x) (he _)
  rintro ov s₁ ⟨a, σ₁, ha, R₁, h₁⟩
  rw [hx]
  exact op_attrN hP O hk ha σ₁ s₁ Q E R₁ h₁

-- x op= e
noncomputable def iAdd : AV → AV → EP
  | .int x, .int y => fun Q _ σ => Q (.int (x + y)) σ
  | _, _ => fun _ _ _ => False
noncomputable def iMul : AV → AV → EP
  | .int x, .int y => fun Q _ σ => (x.natAbs < 2 ^ 60 ∨ y.natAbs < 2 ^ 60) ∧ Q (.int (x * y)) σ
  | _, _ => fun _ _ _ => False
theorem in_add {F : FX} {a b : AV} {u v : Value} (ha : a.rep u) (hb : b.rep v) : OpSim P D F (inplaceOp .Add u v) (iAdd a b) := by
  intro σ s Q E R h
  cases a <;> cases b <;> try exact h.elim
  obtain ⟨t, rfl⟩ := ha
  obtain ⟨t', rfl⟩ := hb
  exact iadd_int (.int R.toks h)
theorem in_sub {F : FX} {a b : AV} {u v : Value} (ha : a.rep u) (hb : b.rep v) : OpSim P D F (inplaceOp .Sub u v) (opSub a b) := by
  intro σ s Q E R h
  cases a <;> cases b <;> try exact h.elim
  obtain ⟨t, rfl⟩ := ha
  obtain ⟨t', rfl⟩ := hb
  exact isub_int (.int R.toks h)
noncomputable def sAugName (f : AV → AV → EP) (i : Nat) (q : EP) : SP := fun Q E σ => pName i (fun a σ₁ => q (fun b σ₂ => f a b (fun c σ₃ => aName i c Q E σ₃) E σ₂) E σ₁) E σ
theorem sim_augName {x : Str} {xp pos : Pos} {op : Operator} {value : Expr} {i : Nat} {k : VK} {f : AV → AV → EP} {q : EP} (hi : D.vars[i]? = some (x, k)) (hq : SimE P D value q)
    (hop : ∀ F, FOk P D F → ∀ a b u v, a.rep u → b.rep v → OpSim P D F (inplaceOp op u v) (f a b)) (hk : notCap k = true := by rfl) : SimS P D (.AugAssign (.Name x xp) op value pos) (sAugName f i q) := by
  rintro F O σ s Q E R ⟨a, hv, h⟩
  refine wpAny_AugAssign_Name ?_
  have hm := List.mem_of_getElem? hi
  have load : ∀ (Q' : Value → Shared → Prop), (∀ u, a.rep u → Q' u s) → wpAny (model P.prog P.w) F.A (loadName F.env x) Q' (RX P D F E) s := by
    intro Q' hQ
    cases k with
    | loc =>
      obtain ⟨m, hn, hl⟩ := R.ns
      obtain ⟨u, hu, hr⟩ := hl i x a hi hv
      exact wpAny_loadName_local O.fn (O.loc x hm) (by rw [O.locals]; exact hn) hu (hQ u hr)
    | cell =>
      obtain ⟨hk, c, hc, _⟩ := O.cell x hm
      obtain ⟨_, u, hu, hq⟩ := R.cell i x hi c hc
      obtain ⟨u', rfl, hr⟩ := hq a hv
      exact wpAny_loadName_cell O.fn hk hc hu (hQ u' hr)
    | cap => cases hk
  refine load _ fun u hu => ?_
  refine wpAny_mono (hq F O σ s _ E R h) ?_ fun _ _ x => x
  rintro w s₁ ⟨b, σ₁, hb, R₁, h₁⟩
  refine wpAny_mono (hop F O a b u w hu hb σ₁ s₁ _ E R₁ h₁) ?_ fun _ _ x => x
  rintro z s₂ ⟨c, σ₂, hc, R₂, h₂⟩
  exact wpAny_mono (store_sim O hi hk hc R₂ h₂) (fun _ _ x => flow_next x) fun _ _ x => x

noncomputable def sAugItem (f : AV → AV → EP) (o i q : EP) : SP := fun Q E σ => o (fun ov σ₁ => i (fun iv σ₂ => opItem ov iv (fun a σ₃ => q (fun b σ₄ => f a b (fun c σ₅ => opSetItem ov iv c Q E σ₅) E σ₄) E σ₃) E σ₂) E σ₁) E σ
theorem sim_augItem {o i value : Expr} {tp pos : Pos} {op : Operator} {f : AV → AV → EP} {po pi q : EP} (ho : SimE P D o po) (hi : SimE P D i pi) (hq : SimE P D value q)
    (hop : ∀ F, FOk P D F → ∀ a b u v, a.rep u → b.rep v → OpSim P D F (inplaceOp op u v) (f a b))
    (hs : ∀ ov iv new, augStore i ov iv new = (do holding [new, ov, iv] (setItem ov iv new); release [new, ov, iv] []; pure .next) := by intros; rfl) : SimS P D (.AugAssign (.Subscript o i tp) op value pos) (sAugItem f po pi q) := by
  intro F O σ s Q E R h
  refine wpAny_AugAssign_SubscriptAny (wpAny_mono (ho F O σ s _ E R h) ?_ fun _ _ x => x) hs
  rintro ov s₁ ⟨a, σ₁, ha, R₁, h₁⟩
  refine wpAny_mono (hi F O σ₁ s₁ _ E R₁ h₁) ?_ fun _ _ x => x
  rintro iv s₂ ⟨b, σ₂, hb, R₂, h₂⟩
  refine wpAny_mono (op_item ha hb σ₂ s₂ _ E R₂ h₂) ?_ fun _ _ x => x
  rintro old s₃ ⟨c, σ₃, hc, R₃, h₃⟩
  refine wpAny_mono (hq F O σ₃ s₃ _ E R₃ h₃) ?_ fun _ _ x => x
  rintro w s₄ ⟨d, σ₄, hd, R₄, h₄⟩
  refine wpAny_mono (hop F O c d old w hc hd σ₄ s₄ _ E R₄ h₄) ?_ fun _ _ x => x
  rintro z s₅ ⟨e, σ₅, he, R₅, h₅⟩
  exact wpAny_mono (op_setItem ha hb he σ₅ s₅ Q E R₅ h₅) (fun _ _ x => flow_next x) fun _ _ x => x
noncomputable def sAugS (k : Nat) (f : AV → AV → EP) (o q : EP) : SP := fun Q E σ => o (fun ov σ₁ => opAttrS k ov (fun a σ₃ => q (fun b σ₄ => f a b (fun c σ₅ => opSetS k ov c Q E σ₅) E σ₄) E σ₃) E σ₁) E σ
theorem sim_augS (hP : POk P) {o value : Expr} {x : Str} {tp pos : Pos} {op : Operator} {k : Nat} {f : AV → AV → EP} {po q : EP} (ho : SimE P D o po) (hq : SimE P D value q)
    (hop : ∀ F, FOk P D F → ∀ a b u v, a.rep u → b.rep v → OpSim P D F (inplaceOp op u v) (f a b)) (hx : x = sName k := by rfl) (hk : k < 4 := by decide) : SimS P D (.AugAssign (.Attribute o x tp) op value pos) (sAugS k f po q) := by
  intro F O σ s Q E R h
  refine wpAny_AugAssign_AttributeAny (wpAny_mono (ho F O σ s _ E R h) ?_ fun _ _ x => x)
  rintro ov s₁ ⟨a, σ₁, ha, R₁, h₁⟩
  rw [hx]
  refine wpAny_mono (op_attrS hP O hk ha σ₁ s₁ _ E R₁ h₁) ?_ fun _ _ x => x
  rintro old s₃ ⟨c, σ₃, hc, R₃, h₃⟩
  refine wpAny_mono (hq F O σ₃ s₃ _ E R₃ h₃) ?_ fun _ _ x => x
  rintro w s₄ ⟨d, σ₄, hd, R₄, h₄⟩
  refine wpAny_mono (hop F O c d old w hc hd σ₄ s₄ _ E R₄ h₄) ?_ fun _ _ x => x
  rintro z s₅ ⟨e, σ₅, he, R₅, h₅⟩
  exact wpAny_mono (op_setS hP O hk ha he σ₅ s₅ Q E R₅ h₅) (fun _ _ x => flow_next x) fun _ _ x => x
noncomputable def sAugN (k : Nat) (f : AV → AV → EP) (o q : EP) : SP := fun Q E σ => o (fun ov σ₁ => opAttrN k ov (fun a σ₃ => q (fun b σ₄ => f a b (fun c σ₅ => opSetN k ov c Q E σ₅) E σ₄) E σ₃) E σ₁) E σ
theorem sim_augN (hP : POk P) {o value : Expr} {x : Str} {tp pos : Pos} {op : Operator} {k : Nat} {f : AV → AV → EP} {po q : EP} (ho : SimE P D o po) (hq : SimE P D value q)
    (hop : ∀ F, FOk P D F → ∀ a b u v, a.rep u → b.rep v → OpSim P D F (inplaceOp op u v) (f a b)) (hx : x = nName k := by rfl) (hk : k < 3 := by decide) : SimS P D (.AugAssign (.Attribute o x tp) op value pos) (sAugN k f po q) := by
  intro F O σ s Q E R h
  refine wpAny_AugAssign_AttributeAny (wpAny_mono (ho F O σ s _ E R h) ?_ fun _ _ x => x)
  rintro ov s₁ ⟨a, σ₁, ha, R₁, h₁⟩
  rw [hx]
  refine wpAny_mono (op_attrN hP O hk ha σ₁ s₁ _ E R₁ h₁) ?_ fun _ _ x => x
  rintro old s₃ ⟨c, σ₃, hc, R₃, h₃⟩
  refine wpAny_mono (hq F O σ₃ s₃ _ E R₃ h₃) ?_ fun _ _ x => x
  rintro w s₄ ⟨d, σ₄, hd, R₄, h₄⟩
  refine wpAny_mono (hop F O c d old w hc hd σ₄ s₄ _ E R₄ h₄) ?_ fun _ _ x => x
  rintro z s₅ ⟨e, σ₅, he, R₅, h₅⟩
  exact wpAny_mono (op_setN hP O hk ha he σ₅ s₅ Q E R₅ h₅) (fun _ _ x => flow_next x) fun _ _ x => x

-- blocks
noncomputable def sNil : SP := fun Q _ σ => Q .next σ
noncomputable def sSeq (p q : SP) : SP := fun Q E σ => p (fun fl σ' => match fl with | .next => q Q E σ' | fl => Q fl σ') E σ
noncomputable def sIf (t : TP) (p q : SP) : SP := fun Q E σ => t (fun b σ' => if b then p Q E σ' else q Q E σ') E σ
noncomputable def sRet (p : EP) : SP := fun Q E σ => p (fun v σ' => Q (.ret v) σ') E σ
noncomputable def sFlow (f : Fl) : SP := fun Q _ σ => Q f σ
noncomputable def sExpr (p : EP) : SP := fun Q E σ => p (fun _ σ' => Q .next σ') E σ
theorem sim_snil : SimSs P D [] sNil := fun _ _ σ _ _ _ R h => wpAny_execs_nil ⟨.next, σ, rfl, R, h⟩
theorem sim_seq {st : Stmt} {rest : List Stmt} {p q : SP} (h : SimS P D st p) (h' : SimSs P D rest q) : SimSs P D (st :: rest) (sSeq p q) := by
  intro F O σ s Q E R hp
  refine wpAny_execs_cons (wpAny_mono (h F O σ s _ E R hp) ?_ fun _ _ x => x)
  rintro f s₁ ⟨fl, σ₁, hf, R₁, h₁⟩
  cases fl with
  | next => subst hf; exact h' F O σ₁ s₁ Q E R₁ h₁
  | brk => subst hf; exact ⟨.brk, σ₁, rfl, R₁, h₁⟩
  | cont => subst hf; exact ⟨.cont, σ₁, rfl, R₁, h₁⟩
  | ret v => obtain ⟨u, rfl, hu⟩ := hf; exact ⟨.ret v, σ₁, ⟨u, rfl, hu⟩, R₁, h₁⟩
theorem sim_one {st : Stmt} {p : SP} (h : SimS P D st p) : SimSs P D [st] p := by
  intro F O σ s Q E R hp
  refine wpAny_execs_cons (wpAny_mono (h F O σ s _ E R hp) ?_ fun _ _ x => x)
  rintro f s₁ ⟨fl, σ₁, hf, R₁, h₁⟩
  cases fl with
  | next => subst hf; exact wpAny_execs_nil ⟨.next, σ₁, rfl, R₁, h₁⟩
  | brk => subst hf; exact ⟨.brk, σ₁, rfl, R₁, h₁⟩
  | cont => subst hf; exact ⟨.cont, σ₁, rfl, R₁, h₁⟩
  | ret v => obtain ⟨u, rfl, hu⟩ := hf; exact ⟨.ret v, σ₁, ⟨u, rfl, hu⟩, R₁, h₁⟩
theorem sim_sif {t : Expr} {a b : List Stmt} {pos : Pos} {pt : TP} {p q : SP} (ht : SimT P D t pt) (h : SimSs P D a p) (h' : SimSs P D b q) : SimS P D (.If t a b pos) (sIf pt p q) := by
  intro F O σ s Q E R hp
  refine wpAny_If (wpAny_mono (ht F O σ s _ E R hp) ?_ fun _ _ x => x)
  rintro b s₂ ⟨σ₂, R₂, h₂⟩
  cases b with
  | true => exact h F O σ₂ s₂ Q E R₂ h₂
  | false => exact h' F O σ₂ s₂ Q E R₂ h₂
theorem sim_ret {e : Expr} {pos : Pos} {p : EP} (h : SimE P D e p) : SimS P D (.Return (some e) pos) (sRet p) := by
  intro F O σ s Q E R hp
  exact wpAny_Return_some (wpAny_mono (h F O σ s _ E R hp) (fun u s₁ ⟨v, σ₁, hv, R₁, h₁⟩ => ⟨.ret v, σ₁, ⟨u, rfl, hv⟩, R₁, h₁⟩) fun _ _ x => x)
theorem sim_break {pos : Pos} : SimS P D (.Break pos) (sFlow .brk) := fun _ _ σ _ _ _ R h => wpAny_Break ⟨.brk, σ, rfl, R, h⟩
theorem sim_continue {pos : Pos} : SimS P D (.Continue pos) (sFlow .cont) := fun _ _ σ _ _ _ R h => wpAny_Continue ⟨.cont, σ, rfl, R, h⟩
theorem sim_expr {e : Expr} {pos : Pos} {p : EP} (h : SimE P D e p) (hs : ∀ env, swapsWith e none pos.line env = pure false := by intro _; rfl) : SimS P D (.Expr e pos) (sExpr p) := by
  intro F O σ s Q E R hp
  refine wpAny_Expr_any (wpAny_mono (h F O σ s _ E R hp) (fun u s₁ ⟨v, σ₁, hv, R₁, h₁⟩ => ⟨.next, σ₁, rfl, R₁, h₁⟩) fun _ _ x => x) ?_ (hs _)
  unfold interactive
  rw [O.fn]; rfl

end
end
section
section
variable {P : PC} {D : FD}

noncomputable def frs (F : FX) : List Addr := F.L :: F.outs.map (·.1)

theorem Rel.upSlots {F : FX} {σ : St} {s : Shared} (R : Rel P D F σ s) (O : FOk P D F) {h' : Heap} {X : List Addr} (hX : ∀ b ∈ X, Unt D F σ b)
    (h1 : ∀ b o, b ∉ X → b ∉ frs F → s.heap.get? b = some o → h'.get? b = some o) (h2 : s.heap.UpToSlots h') : Rel P D F σ { s with heap := h' } := by
  have offL : ∀ b, b ≠ F.L → b ∉ F.outs.map (·.1) → b ∉ frs F := fun b x y hm => by
    rcases List.mem_cons.mp hm with e | e
    · exact x e
    · exact y e
  refine ⟨?_, ?_, R.cap, ?_, ?_, ?_, R.gens, R.os⟩
  · obtain ⟨m, hm, q⟩ := R.ns
    exact ⟨m, h2.ns hm, q⟩
  · intro i x hi c hc
    obtain ⟨e1, u, ⟨o, ho, hd⟩, q⟩ := R.cell i x hi c hc
    obtain ⟨sl, e⟩ := h2 c o ho (fun vs hv => by rw [hd] at hv; cases hv)
    exact ⟨e1, u, ⟨_, e, hd⟩, q⟩
  · intro b o e
    refine h1 b o (fun hm => ?_) (offL b (fun q => ?_) fun hm => ?_) (R.keep b o e)
    · have := (hX b hm).1.g; rw [e] at this; cases this
    · rw [q, O.Lg] at e; cases e
    · obtain ⟨q, hq, rfl⟩ := List.mem_map.mp hm
      rw [(O.outsOk q hq).1] at e; cases e
  · intro q hq
    obtain ⟨sl, e⟩ := R.outs q hq
    obtain ⟨sl', e'⟩ := h2 _ _ e (O.outsOk q hq).2.1
    exact ⟨sl', e'⟩
  · intro a o e
    obtain ⟨x, y, z⟩ := R.hp a o e
    refine ⟨AObj.at_of x (fun ob eo => h1 a ob (fun hm => ?_) (offL a (fun q => ?_) fun hm => ?_) eo), y, z⟩
    · have := (hX a hm).2; rw [e] at this; cases this
    · cases hf : o.frozen with
      | false => exact (z hf).2.1 q
      | true => have := y hf; rw [q, O.kbL] at this; cases this
    · cases hf : o.frozen with
      | false => exact (z hf).2.2 hm
      | true =>
        have := y hf
        obtain ⟨q, hq, rfl⟩ := List.mem_map.mp hm
        rw [O.kbO hq] at this; cases this

theorem funFrames_of {F : FX} (O : FOk P D F) {σ : St} {s : Shared} (R : Rel P D F σ s) {X : List Addr} : ∀ {l : List Env}, (∀ e ∈ l, e ∈ F.fenv :: F.outer) → s.heap.FunFrames (hideAll s.heap (X ++ frs F)) l
  | [], _ => trivial
  | e :: l, h => by
    obtain ⟨hk, L, hf, hL⟩ := O.frs e (h e (List.mem_cons_self ..))
    have hmem : L ∈ frs F := by
      rcases hL with rfl | ⟨o, ho⟩
      · exact List.mem_cons_self ..
      · exact List.mem_cons_of_mem _ (List.mem_map.mpr ⟨_, ho, rfl⟩)
    refine ⟨hk, ?_, funFrames_of O R fun e' he' => h e' (List.mem_cons_of_mem _ he')⟩
    rcases hL with rfl | ⟨o, ho⟩
    · obtain ⟨m, ⟨oL, es, ep, h1, h2, _⟩, _⟩ := R.ns
      exact ⟨F.L, oL, hf, hideAll_none _ (List.mem_append_right _ hmem), h1, fun vs hv => by rw [h2] at hv; cases hv⟩
    · obtain ⟨sl, e'⟩ := R.outs _ ho
      exact ⟨L, _, hf, hideAll_none _ (List.mem_append_right _ hmem), e', (O.outsOk _ ho).2.1⟩

/-- the exception's traceback stands with the flight fl -/
structure XFl (P : PC) (D : FD) (F : FX) (ex : Ex) (σ : St) (e : Value) (fl : Value) (s : Shared) : Prop where
  rel : Rel P D F σ s
  at_ : ∃ a oe vs a0 T oT ts, e = .ref a ∧ Unt D F σ a ∧ s.heap.get? a = some oe ∧ oe.cls = exCls P ex ∧ oe.data = .fields vs ∧ vs[0]? = some a0 ∧ vs[1]? = some (.ref T) ∧ T ≠ a ∧ Unt D F σ T ∧ s.heap.get? T = some oT ∧ oT.data = .fields ts ∧ ts[3]? = some fl

theorem XFl.x {F : FX} {ex : Ex} {σ : St} {e : Value} {s : Shared} (h : XFl P D F ex σ e (rawInt F.L) s) : XAt P D F ex σ e s := by
  obtain ⟨a, oe, vs, a0, T, oT, ts, h1, h2, h3, h4, h5, h6, h7, h8, h9, h10, h11, h12⟩ := h.at_
  exact ⟨h.rel, a, oe, vs, a0, h1, h2, h3, h4, h5, h6, .inr ⟨T, oT, ts, h7, h8, h9, h10, h11, .inr h12⟩⟩
theorem off_base {F : FX} (O : FOk P D F) {σ : St} {s : Shared} {h' : Heap} (R : Rel P D F σ s) (R' : Rel P D F σ { s with heap := h' }) {X : List Addr} {T : Addr} {oT : Obj} (hT : h'.get? T = some oT) (hd : ∃ ts, oT.data = .fields ts) (hX : ∀ b ∈ X, Unt D F σ b)
    (hn : (hideAll s.heap (X ++ frs F)).get? T = none) : Unt D F σ T := by
  by_cases hx : T ∈ X
  · exact hX T hx
  · by_cases hf : T ∈ frs F
    · exfalso
      obtain ⟨ts, hd⟩ := hd
      rcases List.mem_cons.mp hf with rfl | hm
      · obtain ⟨m, ⟨oL, es, ep, h1, h2, _⟩, _⟩ := R'.ns
        rw [hT] at h1; cases h1; rw [hd] at h2; cases h2
      · obtain ⟨q, hq, rfl⟩ := List.mem_map.mp hm
        obtain ⟨sl, e'⟩ := R'.outs q hq
        rw [hT] at e'; cases e'
        exact (O.outsOk q hq).2.1 ts hd
    · cases q : s.heap.get? T with
      | none => exact R.fresh q
      | some o =>
        rw [hideAll_get (X ++ frs F) q (fun hm => (List.mem_append.mp hm).elim hx hf)] at hn; cases hn

/-- an exception is noted at the frame -/
theorem note_sim {F : FX} (O : FOk P D F) (hfn : F.fenv = F.env ∧ F.env.frame = some F.L) {A : Around} (hA : A.frames = F.A.frames) {ex : Ex} {σ : St} {e : Value} {s : Shared} {Q : Unit → Shared → Prop} {E : Value → Shared → Prop} (x : XAt P D F ex σ e s)
    (h : ∀ h', XFl P D F ex σ e (rawInt F.L) { s with heap := h' } → Q () { s with heap := h' }) : wpAny (model P.prog P.w) A (noteFrame e F.env) Q E s := by
  obtain ⟨R, a, oe, vs, a0, rfl, ua, ha, hcls, hd, h0, htr⟩ := x
  have hfr : A.frames = some (F.env :: F.outer) := by rw [hA, O.frames, hfn.1]
  have hff : ∀ e ∈ F.env :: F.outer, e ∈ F.fenv :: F.outer := by rw [hfn.1]; exact fun _ h => h
  have fin : ∀ (X : List Addr) (hX : ∀ b ∈ X, Unt D F σ b) (haX : a ∈ X) (h' : Heap), Heap.NotedW (hideAll s.heap (X ++ frs F)) (F.env :: F.outer) a (exCls P ex) a0 (rawInt F.L) s.heap h' → Q () { s with heap := h' } := by
    rintro X hX haX h' ⟨k1, k2, ⟨oe', vs', T, oT, ts, g1, ⟨g2, g3⟩, g4, g5, g6, g7, g8, g9, g10⟩, k4⟩
    have R' : Rel P D F σ { s with heap := h' } := R.upSlots O hX (fun b o h1 h2 e => k1 b o (hideAll_get _ e fun hm => (List.mem_append.mp hm).elim h1 h2)) k4
    exact h h' ⟨R', a, oe', vs', a0, T, oT, ts, rfl, ua, g1, g2, g4, g3, g5, g7, off_base O R R' g8 ⟨ts, g9⟩ hX g6, g8, g9, g10⟩
  have stays : ∀ X, (hideAll s.heap (X ++ frs F)).StaysIn s.heap := fun X b o e => of_hideAll _ e
  rcases htr with hv1 | ⟨T, oT, ts, hv1, hTa, uT, hT, hdT, h3⟩
  · unfold noteFrame
    simp only [hfn.2]
    refine wpAny_bind (wpAny_field ha hd hv1 ?_)
    rw [if_neg (show ¬ ((Value.none != Value.none) = true) from by simp)]
    refine wpAny_entryW hfr (funFrames_of O R hff) hfn.2 ha (stays [a]) (hideAll_none _ (by simp)) hd (Array.getElem?_eq_some_iff.mp hv1).1 h0 fun h' hN => ?_
    rw [hcls] at hN
    exact fin [a] (fun b hb => by rw [List.mem_singleton.mp hb]; exact ua) (by simp) h' hN
  · rcases h3 with h3 | h3
    · refine wpAny_noteFrame_onW (base := hideAll s.heap ([a, T] ++ frs F)) (cls := exCls P ex) (a0 := a0) hfr (funFrames_of O R hff) hfn.2 ⟨oe, vs, T, oT, ts, ha, ⟨hcls, h0⟩, hd, hv1, hideAll_none _ (by simp), hTa, hT, hdT, h3⟩ (stays _) (hideAll_none _ (by simp)) fun h' hN => ?_
      exact fin [a, T] (fun b hb => by
        rcases List.mem_cons.mp hb with rfl | hb
        · exact ua
        · rw [List.mem_singleton.mp hb]; exact uT) (by simp) h' hN
    · refine wpAny_noteFrame_againW (base := hideAll s.heap ([a, T] ++ frs F)) (cls := exCls P ex) (a0 := a0) hfn.2 ⟨oe, vs, T, oT, ts, ha, ⟨hcls, h0⟩, hd, hv1, hideAll_none _ (by simp), hTa, hT, hdT, h3⟩ ?_
      have := h s.heap ⟨R, a, oe, vs, a0, T, oT, ts, rfl, ua, ha, hcls, hd, h0, hv1, hTa, uT, hT, hdT, h3⟩
      exact this

/-- the flight is told anew -/
theorem flight_sim {F : FX} (O : FOk P D F) {A : Around} {ex : Ex} {σ : St} {e fl : Value} {fo : Option Addr} {s : Shared} {Q : Unit → Shared → Prop} {E : Value → Shared → Prop} (x : XFl P D F ex σ e fl s)
    (h : ∀ h', XFl P D F ex σ e (fo.elim .none fun f => rawInt f) { s with heap := h' } → Q () { s with heap := h' }) : wpAny (model P.prog P.w) A (setFlight e fo) Q E s := by
  obtain ⟨R, a, oe, vs, a0, T, oT, ts, rfl, ua, ha, hcls, hd, h0, hv1, hTa, uT, hT, hdT, h3⟩ := x
  have hsz3 : 3 < ts.size := (Array.getElem?_eq_some_iff.mp h3).1
  unfold setFlight
  refine wpAny_bind (wpAny_field ha hd hv1 ?_)
  rw [if_pos (show (Value.ref T != Value.none) = true from by simp)]
  refine wpAny_setField hT hdT hsz3 (h _ ?_)
  have other : ∀ b, b ≠ T → (s.heap.update T (Obj.mapFields (·.setIfInBounds 3 (fo.elim Value.none fun f => rawInt f)))).get? b = s.heap.get? b := fun b hb => Heap.get?_update_other _ _ (Ne.symm hb)
  have R' : Rel P D F σ { s with heap := s.heap.update T (Obj.mapFields (·.setIfInBounds 3 (fo.elim Value.none fun f => rawInt f))) } :=
    R.change (t := s.toks) (fun b => b = T) (fun b e => e ▸ uT.1) (fun b o ne e => (other b ne).trans e) fun b o e => .inl ⟨e, fun q => by rw [q, uT.2] at e; cases e⟩
  exact ⟨R', a, oe, vs, a0, T, _, _, rfl, ua, (other a (Ne.symm hTa)).trans ha, hcls, hd, h0, hv1, hTa, uT, Heap.get?_update_self _ hT (Obj.isFreed_of_fields (Obj.data_mapFields hdT _)), Obj.data_mapFields hdT _, by simp [hsz3]⟩

/-- an exception goes on through a loop of the same frame -/
theorem pass_sim {F : FX} (O : FOk P D F) (hfn : F.fenv = F.env ∧ F.env.frame = some F.L) {E : Ex → St → Prop} {e : Value} {s : Shared} (x : RX P D F E e s) :
    notedBy (model P.prog P.w) F.A F.env (cameBackBy (model P.prog P.w) F.A F.env (RX P D F E)) e s := by
  obtain ⟨ex, σ, x, he⟩ := x
  refine note_sim O hfn rfl x fun h' x' => ?_
  unfold cameBackBy
  obtain ⟨R', a, oe, vs, a0, T, oT, ts, e1, ua, ha, hcls, hd, h0, hv1, r⟩ := id x'
  subst e1
  refine wpAny_bind (wpAny_field ha hd hv1 ?_)
  rw [if_neg (show ¬ ((Value.ref T == Value.none) = true) from by simp)]
  refine flight_sim O x' fun h'' x'' => ?_
  rw [hfn.2] at x''
  exact ⟨ex, σ, XFl.x x'', he⟩

end
end
section
noncomputable def only (h : Heap) (p : Addr → Bool) : Heap := hideAll h ((List.range h.objs.size).filter fun b => !p b)
theorem only_get {h : Heap} {p : Addr → Bool} {b : Addr} {o : Obj} (e : h.get? b = some o) (hp : p b = true) : (only h p).get? b = some o :=
  hideAll_get _ e fun hm => by have := (List.mem_filter.mp hm).2; rw [hp] at this; cases this
theorem of_only {h : Heap} {p : Addr → Bool} {b : Addr} {o : Obj} (e : (only h p).get? b = some o) : h.get? b = some o ∧ p b = true := by
  have e' := of_hideAll _ e
  refine ⟨e', ?_⟩
  cases hp : p b with
  | true => rfl
  | false =>
    rw [only, hideAll_none _ (List.mem_filter.mpr ⟨List.mem_range.mpr (Heap.lt_size e'), by rw [hp]; rfl⟩)] at e; cases e
theorem only_none {h : Heap} {p : Addr → Bool} {b : Addr} (hp : p b = false) : (only h p).get? b = none := by
  cases e : (only h p).get? b with
  | none => rfl
  | some o => have := (of_only e).2; rw [hp] at this; cases this

noncomputable def guardF (F : FX) (h : Heap) (I : Addr) : FX := { F with g := only h fun b => (F.g.get? b).isSome || b == I }

section
variable {P : PC} {D : FD} {F : FX} {σ : St} {s : Shared}

theorem prot_none {h : Heap} {I b : Addr} (h1 : F.g.get? b = none) (h2 : b ≠ I) : (guardF F h I).g.get? b = none := only_none (by rw [h1]; simpa using h2)

theorem FOk.prot (O : FOk P D F) (R : Rel P D F σ s) {I : Addr} (u : Unt D F σ I) : FOk P D (guardF F s.heap I) where
  fn := O.fn
  locals := O.locals
  globals := O.globals
  builtins := O.builtins
  loc := O.loc
  cell := fun x hx => by
    obtain ⟨h1, c, h2, h3, h4, h5⟩ := O.cell x hx
    exact ⟨h1, c, h2, h3, prot_none h4 (u.1.cells x c hx h2), h5⟩
  cellInj := O.cellInj
  cap := O.cap
  glob := O.glob
  nd := O.nd
  X := O.X
  T := O.T
  kbg := fun b o e => only_get (R.keep b o (O.kbg b o e)) (by rw [O.kbg b o e]; rfl)
  frames := O.frames
  frs := O.frs
  outsOk := fun q hq => ⟨prot_none (O.outsOk q hq).1 fun e => u.1.outs (e ▸ List.mem_map_of_mem hq), (O.outsOk q hq).2⟩
  Lg := prot_none O.Lg (Ne.symm u.1.L)
  above := O.above
  depth := O.depth
  units := O.units
  hh := O.hh
  fnOk := O.fnOk

theorem Rel.prot (R : Rel P D F σ s) {I : Addr} (u : Unt D F σ I) : Rel P D (guardF F s.heap I) σ s where
  ns := R.ns
  cell := R.cell
  cap := fun i x v h1 h2 => by
    obtain ⟨c, w, h3, ⟨o, h4, h5⟩, h6⟩ := R.cap i x v h1 h2
    exact ⟨c, w, h3, ⟨o, only_get (R.keep c o h4) (by rw [h4]; rfl), h5⟩, h6⟩
  keep := fun b o e => (of_only e).1
  outs := R.outs
  hp := fun a o e => by
    obtain ⟨x, y, z⟩ := R.hp a o e
    exact ⟨x, y, fun hf => ⟨prot_none (z hf).1 (fun q => by rw [q, u.2] at e; cases e), (z hf).2⟩⟩
  gens := R.gens
  os := R.os

theorem Rel.unprot {σ' : St} {s' : Shared} (R : Rel P D F σ s) {I : Addr} {oI : Obj} (hI : s.heap.get? I = some oI) (hc : ∀ v, oI.data ≠ .cell v) (R' : Rel P D (guardF F s.heap I) σ' s') : Rel P D F σ' s' ∧ s'.heap.get? I = some oI := by
  have hg : ∀ b o, F.g.get? b = some o → (guardF F s.heap I).g.get? b = some o := fun b o e => only_get (R.keep b o e) (by rw [e]; rfl)
  refine ⟨⟨R'.ns, R'.cell, fun i x v h1 h2 => ?_, fun b o e => R'.keep b o (hg b o e), R'.outs, fun a o e => ?_, R'.gens, R'.os⟩, R'.keep I oI (only_get hI (by simp))⟩
  · obtain ⟨c, w, h3, ⟨o, h4, h5⟩, h6⟩ := R'.cap i x v h1 h2
    obtain ⟨h7, h8⟩ := of_only h4
    refine ⟨c, w, h3, ⟨o, ?_, h5⟩, h6⟩
    by_cases hcI : c = I
    · subst hcI; rw [hI] at h7; cases h7; exact absurd h5 (hc _)
    · cases e : F.g.get? c with
      | none => rw [e] at h8; simp [hcI] at h8
      | some o' => have := R.keep c o' e; rw [h7] at this; cases this; rfl
  · obtain ⟨x, y, z⟩ := R'.hp a o e
    refine ⟨x, y, fun hf => ⟨?_, (z hf).2⟩⟩
    cases e2 : F.g.get? a with
    | none => rfl
    | some o' => have := hg a o' e2; rw [(z hf).1] at this; cases this

/-- an iterator object and what it gives -/
structure ItOk (P : PC) (D : FD) (A : Around) (I : Addr) (items : List AV) (guard : St → Prop) (Ob : Nat → Obj → Prop) : Prop where
  noCell : ∀ i o, Ob i o → ∀ v, o.data ≠ .cell v
  self : ∀ i o (s : Shared) (Q : Value → Shared → Prop) E, Ob i o → s.heap.get? I = some o → Q (.ref I) s → wpAny (model P.prog P.w) A (pyIter (.ref I)) Q E s
  lets : ∀ i o t (u : Value) (s : Shared) (Q : Unit → Shared → Prop) E, Ob i o → s.heap.get? I = some o → Q () s → wpAny (model P.prog P.w) A (letOwnedTupleGo t (.ref I) u) Q E s
  next : ∀ F σ s i o v (Q : Option Value → Shared → Prop) E, F.A = A → Rel P D F σ s → guard σ → s.heap.get? I = some o → Ob i o → items[i]? = some v →
    (∀ u h' tk o', v.rep u → (∀ b ob, b ≠ I → s.heap.get? b = some ob → h'.get? b = some ob) → h'.get? I = some o' → Ob (i + 1) o' → Q (some u) { s with heap := h', toks := tk }) → wpAny (model P.prog P.w) A (pyNext (.ref I)) Q E s
  done : ∀ F σ s i o (Q : Option Value → Shared → Prop) E, F.A = A → Rel P D F σ s → guard σ → s.heap.get? I = some o → Ob i o → items[i]? = none →
    (∀ h' tk, (∀ b ob, b ≠ I → s.heap.get? b = some ob → h'.get? b = some ob) → Q none { s with heap := h', toks := tk }) → wpAny (model P.prog P.w) A (pyNext (.ref I)) Q E s

noncomputable abbrev IP := (List AV → (St → Prop) → St → Prop) → (Ex → St → Prop) → St → Prop
/-- behind iter(x) -/
noncomputable def RI (P : PC) (D : FD) (F : FX) (Q : List AV → (St → Prop) → St → Prop) (it : Value) (s : Shared) : Prop :=
  ∃ I items guard Ob σ o, it = .ref I ∧ Rel P D F σ s ∧ Unt D F σ I ∧ s.heap.get? I = some o ∧ Ob 0 o ∧ (∀ D', ItOk P D' F.A I items guard Ob) ∧ Q items guard σ
noncomputable def SimI (P : PC) (D : FD) (e : Expr) (p : IP) : Prop := ∀ F, FOk P D F → ∀ σ s Q E, Rel P D F σ s → p Q E σ →
  wpAny (model P.prog P.w) F.A (eval e F.env) (fun x s₁ => wpAny (model P.prog P.w) F.A (pyIter x) (RI P D F Q) (RX P D F E) s₁) (RX P D F E) s

theorem Rel.skipI (R : Rel P D F σ s) {I : Addr} (u : Unt D F σ I) {h' : Heap} {t : Nat} (hk : ∀ b ob, b ≠ I → s.heap.get? b = some ob → h'.get? b = some ob) : Rel P D F σ { s with heap := h', toks := t } :=
  R.change (fun b => b = I) (fun b e => e ▸ u.1) hk fun a o e => .inl ⟨e, fun q => by rw [q, u.2] at e; cases e⟩

noncomputable def sFor (src : IP) (tgt : AV → SP) (body : SP) : SP := fun Q E σ => src (fun items guard σ₁ => ∃ J : Nat → St → Prop, J 0 σ₁ ∧ ∀ i σ', J i σ' → guard σ' ∧ (match items[i]? with
  | none => Q .next σ'
  | some v => tgt v (fun _ σ₂ => body (fun fl σ₃ => match fl with
      | .next => J (i + 1) σ₃
      | .cont => J (i + 1) σ₃
      | .brk => Q .next σ₃
      | .ret v => Q (.ret v) σ₃) E σ₂) E σ')) E σ

theorem RX.unprot {E : Ex → St → Prop} {e : Value} {s' : Shared} (R : Rel P D F σ s) {I : Addr} {oI : Obj} (hI : s.heap.get? I = some oI) (hc : ∀ v, oI.data ≠ .cell v) (x : RX P D (guardF F s.heap I) E e s') : RX P D F E e s' := by
  obtain ⟨ex, σ', ⟨R', a, oe, vs, a0, h1, h2, h3, h4, h5, h6, h7⟩, he⟩ := x
  have hg : ∀ b, (guardF F s.heap I).g.get? b = none → F.g.get? b = none := fun b e => by
    cases q : F.g.get? b with
    | none => rfl
    | some o => have := only_get (p := fun b => (F.g.get? b).isSome || b == I) (R.keep b o q) (by simp [q]); rw [show (only s.heap _).get? b = none from e] at this; cases this
  have hu : ∀ b, Unt D (guardF F s.heap I) σ' b → Unt D F σ' b := fun b u => ⟨⟨u.1.L, hg b u.1.g, u.1.outs, u.1.cells⟩, u.2⟩
  refine ⟨ex, σ', ⟨(R.unprot hI hc R').1, a, oe, vs, a0, h1, hu a h2, h3, h4, h5, h6, ?_⟩, he⟩
  rcases h7 with h7 | ⟨T, oT, ts, g1, g2, g3, g4⟩
  · exact .inl h7
  · exact .inr ⟨T, oT, ts, g1, g2, hu T g3, g4⟩

theorem sim_for {t iter : Expr} {body : List Stmt} {pos : Pos} {src : IP} {tgt : AV → SP} {pb : SP} (hi : SimI P D iter src) (ht : SimA P D t tgt) (hb : SimSs P D body pb)
    (hs : ∀ env x, foldedSetIterable iter env x = pure x := by intro _ _; rfl) (hfn : D.fn = true := by rfl) : SimS P D (.For t iter body [] pos) (sFor src tgt pb) := by
  intro F O σ s Q E R hp
  refine wpAny_For (wpAny_mono (hi F O σ s _ E R hp) ?_ fun _ _ x => x) (hs _)
  intro x s₁ h₁
  refine wpAny_mono h₁ ?_ fun _ _ x => x
  rintro it s₂ ⟨I, items, guard, Ob, σ₂, o₂, rfl, R₂, u₂, hI₂, ho₂, W', J, hJ0, hJ⟩
  have W := W' D
  have pass : ∀ e s', RX P D F E e s' → notedBy (model P.prog P.w) F.A F.env (fun e s' => match (Except.error e : Result) with | .ok f => RF P D F Q f s' | .error e => cameBackBy (model P.prog P.w) F.A F.env (RX P D F E) e s') e s' := fun e s' x => pass_sim O (O.fnOk hfn) x
  refine codeAny_forLoop_any (fun n s' => ∃ i σ' o, n = items.length - i ∧ i ≤ items.length ∧ Rel P D F σ' s' ∧ Unt D F σ' I ∧ s'.heap.get? I = some o ∧ Ob i o ∧ J i σ') ?_ _ ⟨0, σ₂, o₂, rfl, Nat.zero_le _, R₂, u₂, hI₂, ho₂, hJ0⟩
  rintro n s' ⟨i, σ', o, hn, hle, R', u', hI', ho', hJi⟩
  obtain ⟨hg, hm⟩ := hJ i σ' hJi
  cases hv : items[i]? with
  | none =>
    rw [hv] at hm
    refine W.done F σ' s' i o _ _ rfl R' hg hI' ho' hv fun h' tk hk => ?_
    exact wpAny_execs_nil ⟨.next, σ', rfl, R'.skipI u' hk, hm⟩
  | some v =>
    rw [hv] at hm
    refine W.next F σ' s' i o v _ _ rfl R' hg hI' ho' hv fun u h' tk o' hu hk hI'' ho'' => ?_
    have R'' := R'.skipI (t := tk) u' hk
    have nc := W.noCell _ _ ho''
    refine W.lets (i + 1) o' t u _ _ _ ho'' hI'' ?_
    have O' := O.prot R'' u'
    have Rp := R''.prot u'
    have toX : ∀ e s₃, RX P D (guardF F h' I) E e s₃ → notedBy (model P.prog P.w) F.A F.env (fun e s' => match (Except.error e : Result) with | .ok f => RF P D F Q f s' | .error e => cameBackBy (model P.prog P.w) F.A F.env (RX P D F E) e s') e s₃ := fun e s₃ x => pass e s₃ (RX.unprot R'' hI'' nc x)
    refine wpAny_mono (ht _ O' v u hu σ' _ _ E Rp hm) ?_ toX
    rintro _ s₃ ⟨σ₃, R₃, h₃⟩
    refine wpAny_mono (hb _ O' σ₃ s₃ _ E R₃ h₃) ?_ toX
    rintro f s₄ ⟨fl, σ₄, hf, R₄, h₄⟩
    obtain ⟨R₅, hI₅⟩ := R''.unprot hI'' nc R₄
    have hlt : i < items.length := by obtain ⟨h, _⟩ := List.getElem?_eq_some_iff.mp hv; exact h
    have u₅ : Unt D F σ₄ I := by
      refine ⟨u'.1, ?_⟩
      cases q : σ₄.hp I with
      | none => rfl
      | some oo =>
        obtain ⟨_, y, z⟩ := R₄.hp I oo q
        exfalso
        cases hfz : oo.frozen with
        | false => have := (z hfz).1; rw [show (guardF F h' I).g.get? I = some o' from only_get hI'' (by simp)] at this; cases this
        | true =>
          have hy := y hfz
          cases q2 : F.kb.get? I with
          | none => rw [show (guardF F h' I).kb.get? I = F.kb.get? I from rfl, q2] at hy; cases hy
          | some ob => have := O.kbg I ob q2; rw [u'.1.g] at this; cases this
    cases fl with
    | next => subst hf; exact ⟨items.length - (i + 1), by omega, i + 1, σ₄, o', rfl, by omega, R₅, u₅, hI₅, ho'', h₄⟩
    | cont => subst hf; exact ⟨items.length - (i + 1), by omega, i + 1, σ₄, o', rfl, by omega, R₅, u₅, hI₅, ho'', h₄⟩
    | brk => subst hf; exact ⟨.next, σ₄, rfl, R₅, h₄⟩
    | ret v => obtain ⟨w, rfl, hw⟩ := hf; exact ⟨.ret v, σ₄, ⟨w, rfl, hw⟩, R₅, h₄⟩

noncomputable def sWhile (t : TP) (body orelse : SP) : SP := fun Q E σ => ∃ J : Nat → St → Prop, (∃ n, J n σ) ∧ ∀ n σ', J n σ' → t (fun b σ₁ => if b then body (fun fl σ₂ => match fl with
      | .next => ∃ m, m < n ∧ J m σ₂
      | .cont => ∃ m, m < n ∧ J m σ₂
      | .brk => Q .next σ₂
      | .ret v => Q (.ret v) σ₂) E σ₁ else orelse Q E σ₁) E σ'
theorem sim_while {t : Expr} {body orelse : List Stmt} {pos : Pos} {pt : TP} {pb po : SP} (ht : SimT P D t pt) (hb : SimSs P D body pb) (ho : SimSs P D orelse po) (hfn : D.fn = true := by rfl) : SimS P D (.While t body orelse pos) (sWhile pt pb po) := by
  rintro F O σ s Q E R ⟨J, ⟨n₀, hJ0⟩, hJ⟩
  have pass : ∀ e s', RX P D F E e s' → notedBy (model P.prog P.w) F.A F.env (fun e s' => match (Except.error e : Result) with | .ok f => RF P D F Q f s' | .error e => cameBackBy (model P.prog P.w) F.A F.env (RX P D F E) e s') e s' := fun e s' x => pass_sim O (O.fnOk hfn) x
  refine wpAny_While (codeAny_whileLoop (fun n s' => ∃ σ', Rel P D F σ' s' ∧ J n σ') ?_ n₀ ⟨σ, R, hJ0⟩)
  rintro n s' ⟨σ', R', hJn⟩
  refine wpAny_mono (ht F O σ' s' _ E R' (hJ n σ' hJn)) ?_ pass
  rintro b s₁ ⟨σ₁, R₁, h₁⟩
  cases b with
  | true =>
    refine wpAny_mono (hb F O σ₁ s₁ _ E R₁ h₁) ?_ pass
    rintro f s₂ ⟨fl, σ₂, hf, R₂, h₂⟩
    cases fl with
    | next => subst hf; obtain ⟨m, hm, hj⟩ := h₂; exact ⟨m, hm, σ₂, R₂, hj⟩
    | cont => subst hf; obtain ⟨m, hm, hj⟩ := h₂; exact ⟨m, hm, σ₂, R₂, hj⟩
    | brk => subst hf; exact ⟨.next, σ₂, rfl, R₂, h₂⟩
    | ret v => obtain ⟨w, rfl, hw⟩ := hf; exact ⟨.ret v, σ₂, ⟨w, rfl, hw⟩, R₂, h₂⟩
  | false => exact wpAny_mono (ho F O σ₁ s₁ Q E R₁ h₁) (fun _ _ x => x) pass

end
end
section
/-- what a frame's names are, checked by evaluation -/
noncomputable def kindsOk (D : FD) (sc : Scope) : Bool :=
  (D.vars.all fun x => match x.2 with
    | .loc => sc.names.lookup x.1 == some .local
    | .cell => sc.names.lookup x.1 == some .cell
    | .cap => false) && (D.globs.all fun x => sc.names.lookup x == some .globalImplicit) && (D.vars.map (·.1)).eraseDups.length == D.vars.length

structure FnOk (P : PC) (f : Addr) (fd : FuncData) (body : List Stmt) (D : FD) : Prop where
  body : fd.body = .stmts body
  clo : fd.closure = []
  glob : fd.globals = mainGlobals
  blt : fd.builtins = builtinsNs
  look : ∃ oc od sl, P.K.lookup f = some ⟨oc, od, .func fd, sl⟩
  code : codeIn P.K fd.code fd.qualname = true
  kind : fd.scope.kind = .function
  co : fd.scope.isCoroutine = false
  gen : fd.scope.isGenerator = false
  loc : ∀ x, (x, VK.loc) ∈ D.vars → fd.scope.names.lookup x = some .local
  cell : ∀ x, (x, VK.cell) ∈ D.vars → fd.scope.names.lookup x = some .cell
  cap : ∀ x, (x, VK.cap) ∉ D.vars
  globs : ∀ x ∈ D.globs, fd.scope.names.lookup x = some .globalImplicit
  nd : (D.vars.map (·.1)).Nodup
  fn : D.fn = true

section
variable {P : PC} {D' : FD} {F' : FX} {σ : St} {s : Shared}

noncomputable def curOuts (F' : FX) (h : Heap) : List (Addr × Obj) := (F'.L :: F'.outs.map (·.1)).filterMap fun a => (h.get? a).map (a, ·)
noncomputable def tracked (hp : AH) (b : Addr) : Bool := match hp b with
  | some o => !o.frozen
  | none => false
noncomputable def calleeG (F' : FX) (hp : AH) (h : Heap) : Heap := only h fun b => !tracked hp b && !(F'.L :: F'.outs.map (·.1)).contains b

theorem curOuts_mem {h : Heap} {q : Addr × Obj} : q ∈ curOuts F' h ↔ h.get? q.1 = some q.2 ∧ q.1 ∈ F'.L :: F'.outs.map (·.1) := by
  unfold curOuts
  rw [List.mem_filterMap]
  constructor
  · rintro ⟨a, ha, e⟩
    obtain ⟨o, ho, e2⟩ := Option.map_eq_some_iff.mp e
    subst e2
    exact ⟨ho, ha⟩
  · rintro ⟨h1, h2⟩
    exact ⟨q.1, h2, by rw [h1]; rfl⟩

theorem curOuts_keys (R : Rel P D' F' σ s) (a : Addr) : a ∈ (curOuts F' s.heap).map (·.1) ↔ a ∈ F'.L :: F'.outs.map (·.1) := by
  constructor
  · intro h
    obtain ⟨q, hq, rfl⟩ := List.mem_map.mp h
    exact (curOuts_mem.mp hq).2
  · intro h
    have : ∃ o, s.heap.get? a = some o := by
      rcases List.mem_cons.mp h with rfl | hm
      · obtain ⟨m, ⟨o, _, _, e, _⟩, _⟩ := R.ns; exact ⟨o, e⟩
      · obtain ⟨q, hq, rfl⟩ := List.mem_map.mp hm
        obtain ⟨sl, e⟩ := R.outs q hq; exact ⟨_, e⟩
    obtain ⟨o, e⟩ := this
    exact List.mem_map.mpr ⟨(a, o), curOuts_mem.mpr ⟨e, h⟩, rfl⟩

theorem calleeG_get {hp : AH} {h : Heap} {b : Addr} {o : Obj} (e : h.get? b = some o) (h1 : tracked hp b = false) (h2 : b ∉ F'.L :: F'.outs.map (·.1)) : (calleeG F' hp h).get? b = some o :=
  only_get e (by rw [h1]; simp only [Bool.not_false, Bool.true_and]; rw [Bool.not_eq_true', ← Bool.not_eq_true, List.contains_iff_mem]; exact h2)
theorem of_calleeG {hp : AH} {h : Heap} {b : Addr} {o : Obj} (e : (calleeG F' hp h).get? b = some o) : h.get? b = some o ∧ tracked hp b = false ∧ b ∉ F'.L :: F'.outs.map (·.1) := by
  obtain ⟨h1, h2⟩ := of_only e
  simp only [Bool.and_eq_true, Bool.not_eq_true'] at h2
  exact ⟨h1, h2.1, fun hm => by rw [List.contains_iff_mem.mpr hm] at h2; cases h2.2⟩

/-- the caller's protected heap is the callee's too -/
theorem g_sub (O' : FOk P D' F') (R : Rel P D' F' σ s) {b : Addr} {o : Obj} (e : F'.g.get? b = some o) : (calleeG F' σ.hp s.heap).get? b = some o := by
  refine calleeG_get (R.keep b o e) ?_ fun hm => ?_
  · unfold tracked
    cases q : σ.hp b with
    | none => rfl
    | some ob =>
      cases hf : ob.frozen with
      | true => simp [hf]
      | false => have := ((R.hp b ob q).2.2 hf).1; rw [e] at this; cases this
  · rcases List.mem_cons.mp hm with rfl | hm
    · rw [O'.Lg] at e; cases e
    · obtain ⟨q, hq, rfl⟩ := List.mem_map.mp hm
      rw [(O'.outsOk q hq).1] at e; cases e

theorem mem_of_lookup {x : Str} {c : Addr} : ∀ {l : List (Str × Addr)}, l.lookup x = some c → (x, c) ∈ l
  | [], h => by cases h
  | (y, d) :: l, h => by
    rw [List.lookup_cons] at h
    split at h
    · rename_i e; cases h; rw [eq_of_beq e]; exact List.mem_cons_self ..
    · exact List.mem_cons_of_mem _ (mem_of_lookup h)
theorem pairwise_inj {x y : Str} {c : Addr} : ∀ {l : List (Str × Addr)}, l.Pairwise (fun a b => a.2 ≠ b.2) → (x, c) ∈ l → (y, c) ∈ l → x = y
  | [], _, h, _ => by cases h
  | p :: l, hp, h1, h2 => by
    obtain ⟨g1, g2⟩ := List.pairwise_cons.mp hp
    rcases List.mem_cons.mp h1 with e1 | e1 <;> rcases List.mem_cons.mp h2 with e2 | e2
    · exact congrArg Prod.fst (e1.trans e2.symm)
    · exact absurd (by rw [← e1]) (g1 _ e2)
    · exact absurd (by rw [← e2]) (g1 _ e1)
    · exact pairwise_inj g2 e1 e2
/-- the callee's frame -/
noncomputable def calleeF (F' : FX) (A : Around) (hp : AH) (h : Heap) (L : Addr) (env : Env) : FX :=
  { A := A.deeper env, kb := F'.kb, fenv := env, outer := F'.fenv :: F'.outer, outs := curOuts F' h, g := calleeG F' hp h, L := L, env := env, os := F'.os }

theorem back_rel {A : Around} {L : Addr} {env : Env} {D : FD} {σ₁ : St} {s₁ : Shared} (O' : FOk P D' F') (R : Rel P D' F' σ s) (R₁ : Rel P D (calleeF F' A σ.hp s.heap L env) σ₁ s₁) : Rel P D' F' ⟨σ.loc, σ₁.hp⟩ s₁ where
  ns := by
    obtain ⟨m, ⟨o, es, ep, e, hd, r⟩, q⟩ := R.ns
    obtain ⟨sl, e'⟩ := R₁.outs (F'.L, o) (curOuts_mem.mpr ⟨e, List.mem_cons_self ..⟩)
    exact ⟨m, ⟨_, es, ep, e', hd, r⟩, q⟩
  cell := fun i x hi c hc => by
    obtain ⟨h1, u, ⟨o, e, hd⟩, q⟩ := R.cell i x hi c hc
    obtain ⟨_, c', hc', hcL, hcg, hco⟩ := O'.cell x (List.mem_of_getElem? hi)
    rw [hc] at hc'; cases hc'
    have hg : (calleeG F' σ.hp s.heap).get? c = some o := calleeG_get e (by unfold tracked; rw [h1]) fun hm => (List.mem_cons.mp hm).elim hcL hco
    refine ⟨?_, u, ⟨o, R₁.keep c o hg, hd⟩, q⟩
    show σ₁.hp c = none
    cases e2 : σ₁.hp c with
    | none => rfl
    | some ob =>
      exfalso
      obtain ⟨_, y, z⟩ := R₁.hp c ob e2
      cases hf : ob.frozen with
      | false => have := (z hf).1; rw [show (calleeF F' A σ.hp s.heap L env).g.get? c = some o from hg] at this; cases this
      | true =>
        have hy : (F'.kb.get? c).isSome = true := y hf
        cases q2 : F'.kb.get? c with
        | none => rw [q2] at hy; cases hy
        | some ob => have := O'.kbg c ob q2; rw [hcg] at this; cases this
  cap := R.cap
  keep := fun b o e => R₁.keep b o (g_sub O' R e)
  outs := fun q hq => by
    obtain ⟨sl, e⟩ := R.outs q hq
    obtain ⟨sl', e'⟩ := R₁.outs (q.1, { q.2 with slots := sl }) (curOuts_mem.mpr ⟨e, List.mem_cons_of_mem _ (List.mem_map.mpr ⟨q, hq, rfl⟩)⟩)
    exact ⟨sl', e'⟩
  hp := fun a o e => by
    obtain ⟨x, y, z⟩ := R₁.hp a o e
    refine ⟨x, y, fun hf => ?_⟩
    obtain ⟨z1, z2, z3⟩ := z hf
    have hno : a ∉ F'.L :: F'.outs.map (·.1) := fun hm => z3 ((curOuts_keys R a).mpr hm)
    refine ⟨?_, fun q => hno (q ▸ List.mem_cons_self ..), fun hm => hno (List.mem_cons_of_mem _ hm)⟩
    cases q : F'.g.get? a with
    | none => rfl
    | some o' => have := g_sub O' R q; rw [show (calleeG F' σ.hp s.heap).get? a = none from z1] at this; cases this
  gens := R₁.gens
  os := R₁.os

theorem back_unt {A : Around} {L : Addr} {env : Env} {D : FD} {σ₁ : St} (O' : FOk P D' F') (R : Rel P D' F' σ s) {a : Addr} (u : Unt D (calleeF F' A σ.hp s.heap L env) σ₁ a) : Unt D' F' ⟨σ.loc, σ₁.hp⟩ a := by
  have hno : a ∉ F'.L :: F'.outs.map (·.1) := fun hm => u.1.outs ((curOuts_keys R a).mpr hm)
  refine ⟨⟨fun q => hno (q ▸ List.mem_cons_self ..), ?_, fun hm => hno (List.mem_cons_of_mem _ hm), fun x c hx hc e => ?_⟩, u.2⟩
  · cases q : F'.g.get? a with
    | none => rfl
    | some o' => have := g_sub O' R q; rw [show (calleeG F' σ.hp s.heap).get? a = none from u.1.g] at this; cases this
  · obtain ⟨i, hi⟩ := List.mem_iff_getElem?.mp hx
    obtain ⟨h1, w, ⟨o, eo, hd⟩, q⟩ := R.cell i x hi c hc
    obtain ⟨_, c', hc', hcL, hcg, hco⟩ := O'.cell x hx
    rw [hc] at hc'; cases hc'
    have hg : (calleeG F' σ.hp s.heap).get? c = some o := calleeG_get eo (by unfold tracked; rw [h1]) fun hm => (List.mem_cons.mp hm).elim hcL hco
    have := u.1.g
    rw [← e, show (calleeF F' A σ.hp s.heap L env).g.get? c = some o from hg] at this; cases this

theorem back_x {A : Around} {L : Addr} {env : Env} {D : FD} {σ₁ : St} {s₁ : Shared} {ex : Ex} {e : Value} (O' : FOk P D' F') (R : Rel P D' F' σ s) (x : XFl P D (calleeF F' A σ.hp s.heap L env) ex σ₁ e .none s₁) : XAt P D' F' ex ⟨σ.loc, σ₁.hp⟩ e s₁ := by
  obtain ⟨R₁, a, oe, vs, a0, T, oT, ts, h1, h2, h3, h4, h5, h6, h7, h8, h9, h10, h11, h12⟩ := x
  exact ⟨back_rel O' R R₁, a, oe, vs, a0, h1, back_unt O' R h2, h3, h4, h5, h6, .inr ⟨T, oT, ts, h7, h8, back_unt O' R h9, h10, h11, .inl h12⟩⟩

noncomputable def retV : Fl → AV
  | .ret v => v
  | _ => .none

/-- behind the callee, at the caller -/
noncomputable def RC (P : PC) (D' : FD) (F' : FX) (loc : Nat → Option AV) (Q : AV → AH → Prop) (E : Ex → AH → Prop) (r : Result) (s' : Shared) : Prop := match r with
  | .ok (.ret v) => ∃ av hp', av.rep v ∧ Rel P D' F' ⟨loc, hp'⟩ s' ∧ Q av hp'
  | .ok _ => False
  | .error e => RX P D' F' (fun ex σ' => σ'.loc = loc ∧ E ex σ'.hp) e s'

theorem bindL_reverse {k : Str → Option NameKind} {x : Str} {v : Value} (hk : k x = some .local) : ∀ {l : List (Str × Value)}, (l.map (·.1)).Nodup → (x, v) ∈ l → ∀ m, bindL k l m x = some v := by
  have base : ∀ (l : List (Str × Value)) (m : Str → Option Value), x ∉ l.map (·.1) → bindL k l m x = m x := by
    intro l
    induction l with
    | nil => intro m _; rfl
    | cons p l ih =>
      intro m hx
      obtain ⟨n, w⟩ := p
      rw [List.map_cons, List.mem_cons, not_or] at hx
      show bindL k l _ x = m x
      rw [ih _ hx.2]
      split
      · exact if_neg hx.1
      · rfl
  intro l
  induction l with
  | nil => intro _ h; cases h
  | cons p l ih =>
    intro hn hm m
    obtain ⟨n, w⟩ := p
    rw [List.map_cons, List.nodup_cons] at hn
    rcases List.mem_cons.mp hm with e | hm
    · cases e
      show bindL k l (if k x = some .local then fun y => if y = x then some v else m y else m) x = some v
      rw [base l _ hn.1, if_pos hk]; exact if_pos rfl
    · exact ih hn.2 hm _
theorem bindC_reverse {k : Str → Option NameKind} {x : Str} {v : Value} (hk : k x ≠ some .local) : ∀ {l : List (Str × Value)}, (l.map (·.1)).Nodup → (x, v) ∈ l → ∀ m, bindC k l m x = some v := by
  have base : ∀ (l : List (Str × Value)) (m : Str → Option Value), x ∉ l.map (·.1) → bindC k l m x = m x := by
    intro l
    induction l with
    | nil => intro m _; rfl
    | cons p l ih =>
      intro m hx
      obtain ⟨n, w⟩ := p
      rw [List.map_cons, List.mem_cons, not_or] at hx
      show bindC k l _ x = m x
      rw [ih _ hx.2]
      split
      · rfl
      · exact if_neg hx.1
  intro l
  induction l with
  | nil => intro _ h; cases h
  | cons p l ih =>
    intro hn hm m
    obtain ⟨n, w⟩ := p
    rw [List.map_cons, List.nodup_cons] at hn
    rcases List.mem_cons.mp hm with e | hm
    · cases e
      show bindC k l (if k x = some .local then m else fun y => if y = x then some v else m y) x = some v
      rw [base l _ hn.1, if_neg hk]; exact if_pos rfl
    · exact ih hn.2 hm _


theorem zip_mem : ∀ {xs : List Str} {us : List Value} (i : Nat) {x : Str} {u : Value}, xs[i]? = some x → us[i]? = some u → (x, u) ∈ xs.zip us
  | [], _, _, _, _, h, _ => by simp at h
  | _ :: _, [], _, _, _, _, h => by simp at h
  | x :: xs, u :: us, 0, _, _, h1, h2 => by simp at h1 h2; subst h1 h2; exact List.mem_cons_self ..
  | x :: xs, u :: us, i + 1, _, _, h1, h2 => by rw [List.zip_cons_cons]; exact List.mem_cons_of_mem _ (zip_mem i (by simpa using h1) (by simpa using h2))
theorem zip_keys : ∀ {xs : List Str} {us : List Value}, xs.Nodup → ((xs.zip us).map (·.1)).Nodup ∧ ∀ x ∈ (xs.zip us).map (·.1), x ∈ xs
  | [], _, _ => ⟨by simp, by simp⟩
  | x :: xs, [], _ => ⟨by simp, by simp⟩
  | x :: xs, u :: us, h => by
    obtain ⟨h1, h2⟩ := List.nodup_cons.mp h
    obtain ⟨i1, i2⟩ := zip_keys (us := us) h2
    rw [List.zip_cons_cons, List.map_cons]
    refine ⟨List.nodup_cons.mpr ⟨fun hm => h1 (i2 x hm), i1⟩, fun y hy => ?_⟩
    rcases List.mem_cons.mp hy with rfl | hy
    · exact List.mem_cons_self ..
    · exact List.mem_cons_of_mem _ (i2 y hy)

theorem cells_some {x : Str} : ∀ (names : List (Str × NameKind)) (n : Nat) (acc : List (Str × Addr)), names.lookup x = some .cell → ((cellsFrom n names acc).lookup x).isSome = true := fun names n acc h => cellsFrom_some names n acc (.inl h)

/-- the callee's body in its own frame -/
theorem enter_sim {f : Addr} {fd : FuncData} {body : List Stmt} {D : FD} {pb : SP} (hF : FnOk P f fd body D) (hS : SimSs P D body pb) (O' : FOk P D' F') {A : Around} (hA : A.frames = F'.A.frames) (hd : A.depth ≤ F'.A.depth + 5) (hu : A.units ≤ F'.A.units + 20)
    (hh : D.calm = true → A.handled = none) (hdep : D.depth + 1 ≤ D'.depth) {vs : List AV} {us : List Value} (hr : Reps vs us) (hn : vs.length ≤ D.vars.length) (R : Rel P D' F' σ s) {Q : AV → AH → Prop} {E : Ex → AH → Prop}
    (hp : pb (fun fl σ₁ => Q (retV fl) σ₁.hp) (fun ex σ₁ => E ex σ₁.hp) ⟨fun i => vs[i]?, σ.hp⟩) :
    wpAny (model P.prog P.w) A.in1 (newFunctionEnv fd.scope fd.globals fd.closure ((D.vars.map (·.1)).zip us) (fd.qualname ++ ".<locals>.") (some f) fd.code none fd.builtins)
      (fun env s₂ => s₂.heap.NoLimit ∧ codeAny (model P.prog P.w) A (.func body env) (RC P D' F' σ.loc Q E) s₂) (fun e s' => RC P D' F' σ.loc Q E (.error e) s') s := by
  rw [hF.clo]
  have hkeys := zip_keys (us := us) hF.nd
  have kinds : ∀ x ∈ D.vars.map (·.1), fd.scope.names.lookup x = some .local ∨ fd.scope.names.lookup x = some .cell := fun x hx => by
    obtain ⟨⟨y, k⟩, hy, rfl⟩ := List.mem_map.mp hx
    cases k with
    | loc => exact .inl (hF.loc y hy)
    | cell => exact .inr (hF.cell y hy)
    | cap => exact absurd hy (hF.cap y)
  refine wpAny_newFunctionEnv_cells hF.kind (fun x hx => ?_) ?_
  · rcases kinds x.1 (hkeys.2 _ (List.mem_map_of_mem hx)) with h | h
    · exact .inl h
    · exact .inr ⟨h, cells_some _ _ _ h⟩
  rintro env rfl s' ⟨⟨⟨h', tk, rfl⟩, hns, hk, hfr⟩, hcell, hap, hab⟩
  have L' : Addr := s.heap.objs.size
  refine ⟨O'.T.nolimit.keeps fun b o e => hk b o (R.keep b o (O'.kbg b o e)), codeAny_func ?_⟩
  -- the frame
  have nofr : ∀ a, a ∈ F'.L :: F'.outs.map (·.1) → a < s.heap.objs.size := fun a ha => by
    obtain ⟨q, hq, rfl⟩ := List.mem_map.mp ((curOuts_keys R a).mpr ha)
    exact Heap.lt_size (curOuts_mem.mp hq).1
  have gLt : ∀ b o, (calleeG F' σ.hp s.heap).get? b = some o → b < s.heap.objs.size := fun b o e => Heap.lt_size (of_calleeG e).1
  have gNone : ∀ b, s.heap.objs.size ≤ b → (calleeG F' σ.hp s.heap).get? b = none := fun b hb => by
    cases q : (calleeG F' σ.hp s.heap).get? b with
    | none => rfl
    | some o => exact absurd (gLt b o q) (Nat.not_lt.mpr hb)
  have oNone : ∀ b, s.heap.objs.size ≤ b → b ∉ (curOuts F' s.heap).map (·.1) := fun b hb hm => absurd (nofr b ((curOuts_keys R b).mp hm)) (Nat.not_lt.mpr hb)
  have cellAt : ∀ x, (x, VK.cell) ∈ D.vars → ∃ c, (cellsFrom (s.heap.objs.size + 1) fd.scope.names []).lookup x = some c ∧ s.heap.objs.size < c := fun x hx => by
    have := cells_some (x := x) fd.scope.names (s.heap.objs.size + 1) [] (hF.cell x hx)
    obtain ⟨c, hc⟩ := Option.isSome_iff_exists.mp this
    exact ⟨c, hc, hab x c (mem_of_lookup hc)⟩
  have O : FOk P D (calleeF F' A σ.hp s.heap s.heap.objs.size (newEnv fd.scope s.heap.objs.size fd.globals (cellsFrom (s.heap.objs.size + 1) fd.scope.names []) (fd.qualname ++ ".<locals>.") (some f) fd.code none fd.builtins)) := {
    fn := hF.kind
    locals := rfl
    globals := hF.glob
    builtins := hF.blt
    loc := hF.loc
    cell := fun x hx => by
      obtain ⟨c, hc, hlt⟩ := cellAt x hx
      exact ⟨hF.cell x hx, c, hc, Nat.ne_of_gt hlt, gNone c (Nat.le_of_lt hlt), oNone c (Nat.le_of_lt hlt)⟩
    cellInj := fun x y c hx hy hcx hcy => by
      have h1 : (x, c) ∈ cellsFrom (s.heap.objs.size + 1) fd.scope.names [] := mem_of_lookup hcx
      have h2 : (y, c) ∈ cellsFrom (s.heap.objs.size + 1) fd.scope.names [] := mem_of_lookup hcy
      exact pairwise_inj hap h1 h2
    cap := fun x hx => absurd hx (hF.cap x)
    glob := hF.globs
    nd := hF.nd
    X := O'.X
    T := O'.T
    kbg := fun b o e => g_sub O' R (O'.kbg b o e)
    frames := by
      show (A.deeper _).frames = _
      exact Around.frames_deeper (hA.trans O'.frames)
    frs := fun e he => by
      rcases List.mem_cons.mp he with rfl | he
      · exact ⟨by show fd.scope.kind ≠ .module; rw [hF.kind]; decide, s.heap.objs.size, rfl, .inl rfl⟩
      · obtain ⟨h1, L, h2, h3⟩ := O'.frs e he
        have hm : L ∈ F'.L :: F'.outs.map (·.1) := by
          rcases h3 with rfl | ⟨o, ho⟩
          · exact List.mem_cons_self ..
          · exact List.mem_cons_of_mem _ (List.mem_map.mpr ⟨_, ho, rfl⟩)
        obtain ⟨q, hq, e2⟩ := List.mem_map.mp ((curOuts_keys R L).mpr hm)
        exact ⟨h1, L, h2, .inr ⟨q.2, by rw [← e2]; exact hq⟩⟩
    outsOk := fun q hq => by
      obtain ⟨h1, h2⟩ := curOuts_mem.mp hq
      refine ⟨?_, fun vs hv => ?_, Nat.ne_of_lt (Heap.lt_size h1)⟩
      · show (calleeG F' σ.hp s.heap).get? q.1 = none
        cases e : (calleeG F' σ.hp s.heap).get? q.1 with
        | none => rfl
        | some o => exact absurd h2 (of_calleeG e).2.2
      · rcases List.mem_cons.mp h2 with e | hm
        · obtain ⟨m, ⟨o, es, ep, e', hd', _⟩, _⟩ := R.ns
          rw [e, e'] at h1; cases h1
          rw [hd'] at hv; cases hv
        · obtain ⟨q', hq', e⟩ := List.mem_map.mp hm
          obtain ⟨sl, e'⟩ := R.outs q' hq'
          have h1' : s.heap.get? q'.1 = some q.2 := by rw [e]; exact h1
          have e2 : q.2 = { q'.2 with slots := sl } := Option.some.inj (h1'.symm.trans e')
          rw [e2] at hv
          exact (O'.outsOk q' hq').2.1 vs hv
    Lg := gNone _ (Nat.le_refl _)
    above := by
      show F'.kb.objs.size ≤ s.heap.objs.size
      obtain ⟨m, ⟨o, _, _, e, _⟩, _⟩ := R.ns
      exact Nat.le_trans O'.above (Nat.le_of_lt (Heap.lt_size e))
    depth := by
      have h1 := O'.depth
      show A.depth + 1 + 20 * D.depth ≤ 900
      (first | lia | omega)
    units := by
      have h1 := O'.units
      show A.units + 3 + 100 * D.depth ≤ 9000
      (first | lia | omega)
    hh := hh
    fnOk := fun _ => ⟨rfl, rfl⟩ }
  have hpN : ∀ b, s.heap.objs.size ≤ b → σ.hp b = none := fun b hb => by
    cases q : σ.hp b with
    | none => rfl
    | some o => obtain ⟨ob, e⟩ := AObj.at_some (R.hp b o q).1; exact absurd (Heap.lt_size e) (Nat.not_lt.mpr hb)
  have Rc : Rel P D (calleeF F' A σ.hp s.heap s.heap.objs.size (newEnv fd.scope s.heap.objs.size fd.globals (cellsFrom (s.heap.objs.size + 1) fd.scope.names []) (fd.qualname ++ ".<locals>.") (some f) fd.code none fd.builtins)) ⟨fun i => vs[i]?, σ.hp⟩ { s with heap := h', toks := tk } := {
    ns := ⟨_, hns, fun i x v hi hv => by
      obtain ⟨u, hu', hrep⟩ := hr.get i hv
      exact ⟨u, bindL_reverse (hF.loc x (List.mem_of_getElem? hi)) hkeys.1 (zip_mem i (by rw [List.getElem?_map, hi]; rfl) hu') _, hrep⟩⟩
    cell := fun i x hi c hc => by
      have hlt := hab x c (mem_of_lookup hc)
      refine ⟨hpN c (Nat.le_of_lt hlt), _, hcell x c hc, fun v hv => ?_⟩
      obtain ⟨u, hu', hrep⟩ := hr.get i hv
      exact ⟨u, bindC_reverse (by show fd.scope.names.lookup x ≠ _; rw [hF.cell x (List.mem_of_getElem? hi)]; decide) hkeys.1 (zip_mem i (by rw [List.getElem?_map, hi]; rfl) hu') _, hrep⟩
    cap := fun i x v hi _ => absurd (List.mem_of_getElem? hi) (hF.cap x)
    keep := fun b o e => hk b o (of_calleeG e).1
    outs := fun q hq => ⟨q.2.slots, hk _ _ (curOuts_mem.mp hq).1⟩
    hp := fun a o e => by
      obtain ⟨x, y, z⟩ := R.hp a o e
      refine ⟨AObj.at_of x fun ob eo => hk _ _ eo, y, fun hf => ?_⟩
      obtain ⟨z1, z2, z3⟩ := z hf
      obtain ⟨ob, eo⟩ := AObj.at_some x
      refine ⟨?_, Nat.ne_of_lt (Heap.lt_size eo), fun hm => ?_⟩
      · show (calleeG F' σ.hp s.heap).get? a = none
        cases q : (calleeG F' σ.hp s.heap).get? a with
        | none => rfl
        | some o' => have := (of_calleeG q).2.1; unfold tracked at this; rw [e] at this; simp [hf] at this
      · exact (List.mem_cons.mp ((curOuts_keys R a).mp hm)).elim z2 z3
    gens := R.gens
    os := R.os }
  refine wpAny_mono (hS _ O _ _ _ _ Rc hp) ?_ ?_
  · rintro fl s₂ ⟨fa, σ₂, hfa, R₂, h₂⟩
    refine ⟨retV fa, σ₂.hp, ?_, back_rel O' R R₂, h₂⟩
    cases fa with
    | next => subst hfa; rfl
    | brk => subst hfa; rfl
    | cont => subst hfa; rfl
    | ret v => obtain ⟨u, rfl, hu'⟩ := hfa; exact hu'
  · rintro e s₂ ⟨ex, σ₂, x, he⟩
    unfold leaving
    refine wpAny_bind (note_sim O (O.fnOk hF.fn) rfl x fun h₃ x₃ => ?_)
    refine flight_sim O x₃ fun h₄ x₄ => ?_
    exact ⟨ex, ⟨σ.loc, σ₂.hp⟩, back_x O' R x₄, rfl, he⟩

end
end
section
noncomputable abbrev FP := List AV → (AV → AH → Prop) → (Ex → AH → Prop) → AH → Prop
/-- a function's contract: told by p -/
noncomputable def FSim (P : PC) (f : Addr) (dep : Nat) (p : FP) : Prop := ∀ (D' : FD) (F' : FX), FOk P D' F' → ∀ A : Around, A.frames = F'.A.frames → A.depth ≤ F'.A.depth + 5 → A.units ≤ F'.A.units + 20 → A.handled = none → dep + 1 ≤ D'.depth →
  ∀ (σ : St) (s : Shared) (vs : List AV) (us : List Value) Q E, Rel P D' F' σ s → Reps vs us → p vs Q E σ.hp → codeAny (model P.prog P.w) A (.call (.ref f) ⟨us, []⟩) (RC P D' F' σ.loc Q E) s

noncomputable def fpOf (n : Nat) (pb : SP) : FP := fun vs Q E hp => vs.length = n ∧ pb (fun fl σ => Q (retV fl) σ.hp) (fun ex σ => E ex σ.hp) ⟨fun i => vs[i]?, hp⟩
noncomputable def fpStar (k : Nat) (pb : SP) : FP := fun vs Q E hp => k ≤ vs.length ∧ vs.length ≤ 1000000 ∧ ∀ a, hp a = none → pb (fun fl σ => Q (retV fl) σ.hp) (fun ex σ => E ex σ.hp) ⟨fun i => (vs.take k ++ [.ref a])[i]?, upd hp a (.tup (vs.drop k))⟩

section
variable {P : PC} {D : FD} {F : FX} {σ : St} {s : Shared}

theorem fsim_plain {f : Addr} {fd : FuncData} {body : List Stmt} {n : Nat} {pb : SP} (hF : FnOk P f fd body D) (hS : SimSs P D body pb) (hn : n ≤ D.vars.length)
    (hb : ∀ (us : List Value) (s : Shared), us.length = n → P.K.In s.heap → BindsTo s fd ⟨us, []⟩ ((D.vars.map (·.1)).zip us)) : FSim P f D.depth (fpOf n pb) := by
  rintro D' F' O' A hA hd hu hh hdep σ s vs us Q E R hr ⟨hl, hp⟩
  obtain ⟨oc, od, sl, hlk⟩ := hF.look
  have X := O'.kin R
  have hrl : A.depth < recursionLimit := by have := O'.depth; unfold recursionLimit; (first | lia | omega)
  refine codeAny_call_function hrl (X _ _ hlk) rfl hF.co hF.gen hF.body (codeRec_of X hF.code) ?_
  refine hb us s (by rw [← hr.length]; exact hl) X _ _ _ _ ?_
  exact enter_sim hF hS O' hA hd hu (fun _ => hh) hdep hr (by (first | lia | omega)) R hp

theorem fsim_star {f : Addr} {fd : FuncData} {body : List Stmt} {k : Nat} {pb : SP} (hF : FnOk P f fd body D) (hS : SimSs P D body pb) (hn : k + 1 ≤ D.vars.length)
    (hb : ∀ (us : List Value) (s : Shared) (A : Around) (Q : List (Str × Value) → Shared → Prop) (E : Value → Shared → Prop), k ≤ us.length → us.length ≤ 1000000 → P.K.In s.heap →
      Q ((D.vars.map (·.1)).zip (us.take k ++ [.ref s.heap.objs.size])) { s with heap := s.heap.push { cls := .type "tuple", data := .seq (us.drop k).toArray } } → wpAny (model P.prog P.w) A (bindArgs fd ⟨us, []⟩) Q E s) : FSim P f D.depth (fpStar k pb) := by
  rintro D' F' O' A hA hd hu hh hdep σ s vs us Q E R hr ⟨hl, hz, hp⟩
  obtain ⟨oc, od, sl, hlk⟩ := hF.look
  have X := O'.kin R
  have hlen := hr.length
  have hrl : A.depth < recursionLimit := by have := O'.depth; unfold recursionLimit; (first | lia | omega)
  refine codeAny_call_function hrl (X _ _ hlk) rfl hF.co hF.gen hF.body (codeRec_of X hF.code) ?_
  refine hb us s _ _ _ (by (first | lia | omega)) (by (first | lia | omega)) X ?_
  have R₁ := R.push { cls := .type "tuple", data := .seq (us.drop k).toArray } (.tup (vs.drop k)) rfl ⟨us.drop k, 0, Heap.get?_push_size _ rfl, hr.drop k, by rw [List.length_drop]; (first | lia | omega)⟩
  exact enter_sim (σ := ⟨σ.loc, upd σ.hp s.heap.objs.size (.tup (vs.drop k))⟩) hF hS O' hA hd hu (fun _ => hh) hdep ((hr.take k).append (l' := [.ref s.heap.objs.size]) (vs' := [.ref s.heap.objs.size]) ⟨rfl, trivial⟩) (by rw [List.length_append, List.length_take]; simp; (first | lia | omega)) R₁ (hp _ (R.fresh (heap_size_none _)).2)

-- global names
theorem glob_fn (O : FOk P D F) (R : Rel P D F σ s) {x : Str} {pos : Pos} {v : Value} {Q : Value → Shared → Prop} {E : Value → Shared → Prop} (hx : x ∈ D.globs) (e : nsIn P.K mainGlobals x = some (some v)) (h : Q v s)
    (hd : (x == ("__debug__" : Str)) = false := by decide) : wpAny (model P.prog P.w) F.A (eval (.Name x pos) F.env) Q E s :=
  Name_function_global O.fn (O.glob x hx) (loadGlobal_global (env := F.env) (by rw [O.globals]; exact O.T.g.keeps fun b o e => R.keep b o (O.kbg b o e)) (mg_of O.X O.T.g e) h) hd

noncomputable def freeName (P : PC) (x : Str) : Prop := x ∉ startupNames ∧ x ∉ P.loose ∧ x ∉ (recsOf P.p).map (·.name) ∧ x ∉ (litsOf P.p).map (·.1) ∧ x ∉ (clssOf P.p P.loose).map (·.name) ∧ x ≠ "__name__"
theorem glob_bi (O : FOk P D F) (R : Rel P D F σ s) {x : Str} {pos : Pos} {v : Value} {Q : Value → Shared → Prop} {E : Value → Shared → Prop} (hx : x ∈ D.globs) (hf : freeName P x) (hv : bootBuiltins x = some v) (h : Q v s)
    (hd : (x == ("__debug__" : Str)) = false := by decide) : wpAny (model P.prog P.w) F.A (eval (.Name x pos) F.env) Q E s := by
  obtain ⟨h1, h2, h3, h4, h5, h6⟩ := hf
  have hk : ∀ b o, F.kb.get? b = some o → s.heap.get? b = some o := fun b o e => R.keep b o (O.kbg b o e)
  exact Name_function_global O.fn (O.glob x hx) (loadGlobal_builtin (env := F.env) (by rw [O.globals]; exact O.T.g.keeps hk) (O.T.free x h1 h2 h3 h4 h5) (by rw [O.builtins]; exact O.T.b.keeps hk) ((O.T.builtins x h6).trans hv) h) hd
/-- a constant of the text -/
theorem sim_gconst {x : Str} {pos : Pos} {i : Int} {t : Tok} (hx : x ∈ D.globs) (e : nsIn P.K mainGlobals x = some (some (.int i t))) (hd : (x == ("__debug__" : Str)) = false := by decide) : SimE P D (.Name x pos) (pInt i) :=
  fun _ O _ _ _ _ R h => glob_fn O R hx e (RE.int R h) hd

-- arguments
noncomputable def SimAr (P : PC) (D : FD) (args : List Expr) (p : LP) : Prop := ∀ F, FOk P D F → ∀ (f : Value) pos σ s Q E, Rel P D F σ s → p Q E σ →
  wpAny (model P.prog P.w) F.A (evalArgs f true (backTo pos (starEach args F.env)) []) (fun a s' => a.kw = [] ∧ RL P D F Q a.pos s') (RX P D F E) s
theorem sim_arNil : SimAr P D [] lNil := fun _ _ _ _ σ _ _ _ R h => evalArgs_nil3 ⟨rfl, [], σ, trivial, R, h⟩
theorem sim_arCons {e : Expr} {es : List Expr} {p : LP} (h : SimL P D (e :: es) p) (he : ∀ env, starEach (e :: es) env = (false, eval e env) :: starEach es env := by intro _; rfl) : SimAr P D (e :: es) p := by
  intro F O f pos σ s Q E R hp
  have := h F O pos σ s Q E R hp
  rw [he] at this ⊢
  exact evalArgs_plain (wpAny_mono this (fun vs s' x => ⟨rfl, x⟩) fun _ _ x => x)

/-- the items of a star's value -/
noncomputable def starOf (v : AV) (Q : List AV → St → Prop) (σ : St) : Prop := ∃ a l, v = .ref a ∧ (σ.hp a = some (.list l) ∨ σ.hp a = some (.tup l)) ∧ Q l σ
theorem star_sim {Q : List AV → St → Prop} {E : Ex → St → Prop} {v : AV} {u : Value} (hv : v.rep u) (R : Rel P D F σ s) (h : starOf v Q σ) : StarOf (model P.prog P.w) F.A (RX P D F E) u (RL P D F Q) s := by
  obtain ⟨a, l, rfl, hl, hq⟩ := h
  subst hv
  have fin : ∀ (T : String) (hT : T = "list" ∨ T = "tuple") (vs : List Value) (n : Nat) (o : Obj), s.heap.get? a = some o → o.cls = .type T → o.data = .seq vs.toArray n → Reps l vs → l.length ≤ 1000000 → StarOf (model P.prog P.w) F.A (RX P D F E) (.ref a) (RL P D F Q) s := by
    intro T hT vs n o ho hc hd r hz
    have hT' : s.TypeIs (.ref a) T := ⟨o, ho, hc⟩
    have z : wpAny (model P.prog P.w) F.A (collect (.ref a)) (RL P D F Q) (RX P D F E) s := by
      refine wpAny_collect_seq a hT ho hc hd (fun h' hk => ⟨l, σ, by simpa using r, R.ext (t := s.toks) hk, hq⟩) ?_
      rw [List.size_toArray, sizeLine_eq, ← r.length]; (first | lia | omega)
    unfold StarOf notIterableAtAll
    rcases hT with rfl | rfl
    · exact wpAny_bind (wpAny_specialOf hT' PySem.F.slot_list_iter.lookup (wpAny_pure ⟨rfl, z⟩))
    · exact wpAny_bind (wpAny_specialOf hT' PySem.F.slot_tuple_iter.lookup (wpAny_pure ⟨rfl, z⟩))
  rcases hl with hl | hl
  · obtain ⟨vs, n, e, r, hz⟩ := R.plain hl
    exact fin "list" (.inl rfl) vs n _ e rfl rfl r hz
  · obtain ⟨vs, n, e, r, hz⟩ := R.tup hl
    exact fin "tuple" (.inr rfl) vs n _ e rfl rfl r hz
noncomputable def lStar (p : EP) : LP := fun Q E σ => p (fun v σ' => starOf v Q σ') E σ
theorem sim_arStar {e : Expr} {p' : Pos} {p : EP} (h : SimE P D e p) : SimAr P D [.Starred e p'] (lStar p) := by
  intro F O f pos σ s Q E R hp
  refine ks_lone (wpAny_mono (h F O σ s _ E R hp) ?_ fun _ _ x => x)
  rintro u s₁ ⟨v, σ₁, hv, R₁, h₁⟩
  exact wpAny_mono (star_sim hv R₁ h₁) (fun b s₂ h₂ => ⟨h₂.1, wpAny_mono h₂.2 (fun vs s₃ x => ⟨rfl, x⟩) fun _ _ x => x⟩) fun _ _ x => x
noncomputable def pCall (fp : FP) (args : LP) : EP := fun Q E σ => args (fun vs σ₁ => fp vs (fun v hp' => Q v ⟨σ₁.loc, hp'⟩) (fun ex hp' => E ex ⟨σ₁.loc, hp'⟩) σ₁.hp) E σ

theorem RC.wants {F : FX} {loc : Nat → Option AV} {Q : AV → St → Prop} {E : Ex → St → Prop} : ∀ {r : Result} {s' : Shared} (_ : RC P D F loc (fun v hp' => Q v ⟨loc, hp'⟩) (fun ex hp' => E ex ⟨loc, hp'⟩) r s'), PySem.wants (RE P D F Q) (RX P D F E) r s'
  | .error e, s', x => by
    obtain ⟨ex, σ', x1, x2, x3⟩ := x
    refine ⟨ex, σ', x1, ?_⟩
    have : σ' = ⟨loc, σ'.hp⟩ := by cases σ'; cases x2; rfl
    rw [this]; exact x3
  | .ok .next, _, x => x
  | .ok .brk, _, x => x
  | .ok .cont, _, x => x
  | .ok (.ret v), s', x => by
    obtain ⟨av, hp', h1, h2, h3⟩ := x
    exact ⟨av, ⟨loc, hp'⟩, h1, h2, h3⟩

/-- calling a def of the text with evaluated arguments -/
theorem callee_sim {f : Addr} {dep : Nat} {fp : FP} (hf : FSim P f dep fp) (O : FOk P D F) (hc : D.calm = true) (hdep : dep + 1 ≤ D.depth) {A : Around} (hA : A.frames = F.A.frames) (hd : A.depth ≤ F.A.depth + 5) (hu : A.units ≤ F.A.units + 20) (hh : A.handled = none) {vs : List AV} {us : List Value} (hr : Reps vs us) (R : Rel P D F σ s) {Q : AV → St → Prop} {E : Ex → St → Prop}
    (hp : fp vs (fun v hp' => Q v ⟨σ.loc, hp'⟩) (fun ex hp' => E ex ⟨σ.loc, hp'⟩) σ.hp) : wpAny (model P.prog P.w) A (call (.ref f) us) (RE P D F Q) (RX P D F E) s :=
  wpAny_call (codeAny_mono (hf D F O A hA hd hu hh hdep σ s vs us _ _ R hr hp) fun _ _ x => RC.wants x)

theorem sim_call {x : Str} {np pos : Pos} {args : List Expr} {f : Addr} {dep : Nat} {fp : FP} {p : LP} (hf : FSim P f dep fp) (hx : x ∈ D.globs) (e : nsIn P.K mainGlobals x = some (some (.ref f))) (hk : keepIn P.K (.ref f) = true) (ha : SimAr P D args p) (hdep : dep + 1 ≤ D.depth)
    (hs : ∀ env, (backTo pos (starEach args env)).any (·.1) = false := by intro _; rfl) (hc : D.calm = true := by rfl) (hd : (x == ("__debug__" : Str)) = false := by decide) : SimE P D (.Call (.Name x np) args [] pos) (pCall fp p) := by
  intro F O σ s Q E R hp
  refine wpAny_Call_ofName (glob_fn O R hx e ?_ hd)
  refine callWith_of (P := fun h => P.K.In h) (by rw [hs]; rfl) (keeps_K hk) (wpAny_mono (ha F O _ pos σ s _ E R hp) ?_ fun _ _ x => x)
  rintro a s₁ ⟨hkw, vs, σ₁, hr, R₁, h₁⟩
  refine ⟨O.kin R₁, ?_⟩
  rw [hkw]
  exact callee_sim hf O hc hdep rfl (Nat.le_add_right _ _) (Nat.le_add_right _ _) (O.hh hc) hr R₁ h₁

end
end
section
structure MethOk (P : PC) (x : Str) (f : Addr) : Prop where
  get : plainGet P.K P.cS x = true
  find : findIn P.K (.ref P.cS) x = some (some (.ref f))
  isFn : isFn P.K (.ref f) = true
  fnIn : fnIn P.K f = true
  keep : keepIn P.K (.ref f) = true
  getf : specialIn P.K (.ref f) "__get__" = some (some (.builtin "function.__get__"))
  takes : takesIn P.K (.ref f) = some false
  copied : copiedNames.contains x = false
  n0 : x ≠ "_node2info"
  n1 : x ≠ "_ready_nodes"
  n2 : x ≠ "_npassedout"
  n3 : x ≠ "_nfinished"

section
variable {P : PC} {D : FD} {F : FX} {σ : St} {s : Shared}

/-- every object that the text's own part does not hold, but the frame's -/
noncomputable def allOff (kb : Heap) (L : Addr) (h : Heap) : List (Addr × Obj) := (allBut L h).filter fun p => (kb.get? p.1).isNone
theorem news_off (kb : Heap) (L : Addr) (h : Heap) : News kb L h (allOff kb L h) := fun p hp => by
  obtain ⟨h1, h2⟩ := List.mem_filter.mp hp
  obtain ⟨e1, e2, _⟩ := news_all L h p h1
  exact ⟨e1, e2, by simpa using h2⟩
theorem off_keeps {kb : Heap} {L : Addr} {h h' : Heap} {m : Str → Option Value} {more : List (Addr × Obj)} (hk : ∀ b o, kb.get? b = some o → h.get? b = some o) (F' : Fr kb L h' m) (N' : News kb L h' (more ++ allOff kb L h)) : ∀ b o, b ≠ L → h.get? b = some o → h'.get? b = some o := fun b o ne e => by
  cases q : kb.get? b with
  | none => exact (N' (b, o) (List.mem_append_right _ (List.mem_filter.mpr ⟨mem_all ne e, by simp [q]⟩))).1
  | some o' => have := hk b o' q; rw [e] at this; cases this; exact F'.keep b o q

theorem Rel.growL (R : Rel P D F σ s) (O : FOk P D F) {m : Str → Option Value} {h' : Heap} {t : Nat} (hm : s.heap.Ns F.L m) (hm' : h'.Ns F.L m) (hk : ∀ b o, b ≠ F.L → s.heap.get? b = some o → h'.get? b = some o) : Rel P D F σ { s with heap := h', toks := t } :=
  R.changeL O (fun _ => False) (fun _ x => x.elim) (fun m' h => ns_unique h hm ▸ hm') (fun b o _ ne e => hk b o ne e) fun _ _ e => .inl ⟨e, id⟩

noncomputable def isInst (σ : St) (v : AV) (a : Addr) : Prop := v = .ref a ∧ ∃ d, σ.hp a = some (.inst d) ∧ isSd (σ.hp d)

noncomputable def pMeth (o : EP) (fp : FP) (args : LP) : EP := fun Q E σ => o (fun ov σ₁ => ∃ a, isInst σ₁ ov a ∧ args (fun vs σ₂ => fp (ov :: vs) (fun v hp' => Q v ⟨σ₂.loc, hp'⟩) (fun ex hp' => E ex ⟨σ₂.loc, hp'⟩) σ₂.hp) E σ₁) E σ

theorem sim_meth {o : Expr} {x : Str} {apos pos : Pos} {args : List Expr} {f : Addr} {dep : Nat} {fp : FP} {po : EP} {p : LP} (hM : MethOk P x f) (hf : FSim P f dep fp) (ho : SimE P D o po) (ha : SimAr P D args p) (hdep : dep + 1 ≤ D.depth)
    (hs : ∀ env, (backTo pos (starEach args env)).any (·.1) = false := by intro _; rfl)
    (hbase : ∀ env, attributeBase o x env (eval o env) = eval o env := by intro _; rfl)
    (hfew : ∀ env, methodCallForm (args.length + ([] : List Keyword).length) (backTo pos (starEach args env)) (backToKw pos (keywordEach [] env)) = true := by intro _; rfl)
    (hline : (apos.endLine == pos.line) = true := by rfl) (hc : D.calm = true := by rfl) : SimE P D (.Call (.Attribute o x apos) args [] pos) (pMeth po fp p) := by
  intro F O σ s Q E R hp
  rw [arm_eval_Call, hbase]
  refine wpAny_bind (wpAny_mono (ho F O σ s _ E R hp) ?_ fun _ _ x => x)
  rintro ov s₁ ⟨av, σ₁, hav, R₁, a, ⟨rfl, d, h1, h2⟩, h₁⟩
  subst hav
  refine wpAny_bind (wpAny_standAt ?_)
  have hpos : methodCallPos true o F.env apos pos = pure pos := by unfold methodCallPos; simp [hline]
  unfold methodCall
  rw [hfew]
  unfold isSd at h2
  split at h2 <;> try exact h2.elim
  rename_i e2
  obtain ⟨des, n, I, e, _, _, _, hx⟩ := inst_at R₁ h1 e2
  obtain ⟨m, Fm⟩ := R₁.frG O
  refine wpAny_bind (wpAny_holding (method_inst Fm O.X I hM.get hM.find hM.isFn (hx x hM.n0 hM.n1 hM.n2 hM.n3) ?_))
  refine wpAny_bind (wpAny_of_eq hpos ?_)
  refine callWith_of (P := fun h => P.K.In h) (by rw [hs]; rfl) (keeps_K hM.keep) (wpAny_mono (ha F O _ pos σ₁ s₁ _ E R₁ h₁) ?_ fun _ _ x => x)
  rintro ar s₂ ⟨hkw, vs, σ₂, hr, R₂, h₂⟩
  refine ⟨O.kin R₂, ?_⟩
  rw [hkw]
  exact callee_sim (vs := .ref a :: vs) (us := .ref a :: ar.pos) hf O hc hdep rfl (Nat.le_add_right _ _) (Nat.le_add_right _ _) (O.hh hc) ⟨rfl, hr⟩ R₂ h₂

theorem sim_methS {o : Expr} {x : Str} {apos pos : Pos} {args : List Expr} {f : Addr} {dep : Nat} {fp : FP} {po : EP} {p : LP} (hP : POk P) (hM : MethOk P x f) (hf : FSim P f dep fp) (ho : SimE P D o po) (ha : SimAr P D args p) (hdep : dep + 1 ≤ D.depth)
    (hs : ∀ env, (backTo pos (starEach args env)).any (·.1) = true := by intro _; rfl)
    (hbase : ∀ env, attributeBase o x env (eval o env) = eval o env := by intro _; rfl)
    (hfew : ∀ env, methodCallForm (args.length + ([] : List Keyword).length) (backTo pos (starEach args env)) (backToKw pos (keywordEach [] env)) = false := by intro _; rfl) (hc : D.calm = true := by rfl) : SimE P D (.Call (.Attribute o x apos) args [] pos) (pMeth po fp p) := by
  intro F O σ s Q E R hp
  rw [arm_eval_Call, hbase]
  refine wpAny_bind (wpAny_mono (ho F O σ s _ E R hp) ?_ fun _ _ x => x)
  rintro ov s₁ ⟨av, σ₁, hav, R₁, a, ⟨rfl, d, h1, h2⟩, h₁⟩
  subst hav
  refine wpAny_bind (wpAny_standAt ?_)
  have hpos : methodCallPos false o F.env apos pos = pure pos := by unfold methodCallPos; simp
  unfold methodCall
  rw [hfew]
  unfold isSd at h2
  split at h2 <;> try exact h2.elim
  rename_i e2
  obtain ⟨des, n, I, e, _, _, _, hx⟩ := inst_at R₁ h1 e2
  obtain ⟨m, Fm⟩ := R₁.frG O
  have hm : s₁.heap.Ns F.L m := Fm.ns
  refine wpAny_bind (wpAny_holding (wpAny_bind ?_))
  refine kbm_bound (news := allOff F.kb F.L s₁.heap) Fm O.X (news_off _ _ _) I hM.get hP.sDict hM.find hM.isFn hM.getf hM.takes hM.copied (hx x hM.n0 hM.n1 hM.n2 hM.n3) fun q h' F' N' hlt => wpAny_pure ?_
  have hk := off_keeps (more := [(q, methodObj (.ref f) (.ref a))]) (fun b o e => R₁.keep b o (O.kbg b o e)) F' N'
  have R₂ : Rel P D F σ₁ { s₁ with heap := h', toks := s₁.toks + 1 } := R₁.growL O hm F'.ns hk
  have hq : h'.get? q = some (methodObj (.ref f) (.ref a)) := (N' _ (List.mem_cons_self ..)).1
  have hqL : q ≠ F.L := (N' _ (List.mem_cons_self ..)).2.1
  -- the bound method is new
  have uq : Unt D F σ₁ q := by
    have hqn : s₁.heap.get? q = none := by
      cases e3 : s₁.heap.get? q with
      | none => rfl
      | some ob =>
        exfalso
        have h3 : F.kb.get? q = none := (N' _ (List.mem_cons_self ..)).2.2
        have := hlt (q, ob) (List.mem_filter.mpr ⟨mem_all hqL e3, by simp [h3]⟩)
        exact Nat.lt_irrefl _ this
    exact R₁.fresh hqn
  refine wpAny_bind (wpAny_of_eq hpos ?_)
  have O' := O.prot R₂ uq
  have Rp := R₂.prot uq
  have nc : ∀ v, (methodObj (Value.ref f) (.ref a)).data ≠ .cell v := fun v h => by cases h
  refine ks_call (P := fun h => MethP P.K q f (.ref a) h) (hs _) (keeps_M hM.fnIn) (wpAny_mono (ha _ O' _ pos σ₁ _ _ E Rp h₁) ?_ fun _ _ x => RX.unprot R₂ hq nc x)
  rintro ar s₃ ⟨hkw, vs, σ₃, hr, R₃, h₃⟩
  obtain ⟨R₄, hq₄⟩ := R₂.unprot hq nc R₃
  refine ⟨⟨hq₄, O.kin R₄⟩, ?_⟩
  rw [hkw]
  refine wpAny_call (method_call hq₄ ?_)
  exact codeAny_mono (hf D F O F.A rfl (Nat.le_add_right _ _) (Nat.le_add_right _ _) (O.hh hc) hdep σ₃ s₃ (.ref a :: vs) _ _ _ R₄ ⟨rfl, hr⟩ h₃) fun _ _ x => RC.wants x

-- making instances
structure ClsOk (P : PC) (C fI : Addr) (dep : Nat) (fp : FP) : Prop where
  makes : makesIn P.K C = true
  init : findIn P.K (.ref C) "__init__" = some (some (.ref fI))
  fn : typeIn P.K (.ref fI) = some (.type "function")
  keep : keepIn P.K (.ref C) = true
  sim : FSim P fI dep fp

/-- the class of the sorters -/
noncomputable def pNewS (fp : FP) (args : LP) : EP := fun Q E σ => args (fun vs σ₁ => ∀ x d, σ₁.hp x = none → σ₁.hp d = none → x ≠ d → fp (.ref x :: vs) (fun v hp' => v = .none ∧ Q (.ref x) ⟨σ₁.loc, hp'⟩) (fun ex hp' => E ex ⟨σ₁.loc, hp'⟩) (upd (upd σ₁.hp d (.sd none none none none)) x (.inst d))) E σ
noncomputable def pNewN (fp : FP) (args : LP) : EP := fun Q E σ => args (fun vs σ₁ => ∀ x d, σ₁.hp x = none → σ₁.hp d = none → x ≠ d → fp (.ref x :: vs) (fun v hp' => v = .none ∧ Q (.ref x) ⟨σ₁.loc, hp'⟩) (fun ex hp' => E ex ⟨σ₁.loc, hp'⟩) (upd (upd σ₁.hp d (.sd none none none none)) x (.rcd d []))) E σ

theorem sd_empty {h : Heap} {d : Addr} (e : h.get? d = some emptyDict) : (AObj.sd none none none none).at P h d := by
  refine ⟨[], 0, e, rfl, Nat.zero_le _, rfl, rfl, rfl, rfl, fun x _ _ _ _ => rfl⟩

theorem under_create {A : Around} {C : Addr} {rest : List Value} : (A.under (.builtin "type.__call__" ⟨.ref C :: rest, []⟩)).frames = A.frames ∧ (A.under (.builtin "type.__call__" ⟨.ref C :: rest, []⟩)).depth ≤ A.depth + 5 ∧ (A.under (.builtin "type.__call__" ⟨.ref C :: rest, []⟩)).units ≤ A.units + 20 ∧ (A.under (.builtin "type.__call__" ⟨.ref C :: rest, []⟩)).handled = A.handled := by
  refine ⟨?_, ?_, ?_, rfl⟩
  · show pushEnvs (Code.builtin "type.__call__" ⟨.ref C :: rest, []⟩).envs A.frames = A.frames
    rfl
  · show A.depth + (Code.builtin "type.__call__" ⟨.ref C :: rest, []⟩).weight ≤ A.depth + 5
    have : (Code.builtin "type.__call__" ⟨.ref C :: rest, []⟩).weight ≤ 5 := by
      unfold Code.weight
      have h1 : (Code.builtin "type.__call__" ⟨.ref C :: rest, []⟩).frames ≤ 2 := by unfold Code.frames; simp [Code.isFrame]; try split <;> (first | lia | omega)
      split <;> split <;> split <;> first | (first | lia | omega) | (simp_all [Code.isCaller]; done)
    (first | lia | omega)
  · show A.units + (Code.builtin "type.__call__" ⟨.ref C :: rest, []⟩).cUnits ≤ A.units + 20
    have : (Code.builtin "type.__call__" ⟨.ref C :: rest, []⟩).cUnits ≤ 20 := by show 1 + 3 * (Code.builtin "type.__call__" ⟨.ref C :: rest, []⟩).frames ≤ 20; have h1 : (Code.builtin "type.__call__" ⟨.ref C :: rest, []⟩).frames = 0 := rfl; (first | lia | omega)
    (first | lia | omega)


theorem code_new {C fI : Addr} {dep : Nat} {fp : FP} (hC : ClsOk P C fI dep fp) (O : FOk P D F) (hdep : dep + 1 ≤ D.depth) (hc : D.calm = true) {mk : Addr → AObj} (hfz : ∀ d, (mk d).frozen = false) (hob : ∀ h x d, h.get? x = some (instObj C d) → (mk d).at P h x)
    {vs : List AV} {us : List Value} (hr : Reps vs us) (R : Rel P D F σ s) {Q : AV → St → Prop} {E : Ex → St → Prop}
    (hp : ∀ x d, σ.hp x = none → σ.hp d = none → x ≠ d → fp (.ref x :: vs) (fun v hp' => v = .none ∧ Q (.ref x) ⟨σ.loc, hp'⟩) (fun ex hp' => E ex ⟨σ.loc, hp'⟩) (upd (upd σ.hp d (.sd none none none none)) x (mk d))) :
    wpAny (model P.prog P.w) F.A (call (.ref C) us) (RE P D F Q) (RX P D F E) s := by
  obtain ⟨m, Fm, hm⟩ := R.fr
  refine wpAny_call (make_K Fm (news_all F.L s.heap) (O.kin R) hC.makes hC.init hC.fn fun x d h' F' N' hlt hdx => ?_)
  have Nx := N' _ (List.mem_cons_self ..)
  have Nd := N' _ (List.mem_cons_of_mem _ (List.mem_cons_self ..))
  have hk : ∀ b o, b ≠ F.L → s.heap.get? b = some o → h'.get? b = some o := fun b o ne e => (N' (b, o) (List.mem_cons_of_mem _ (List.mem_cons_of_mem _ (mem_all ne e)))).1
  have dn : s.heap.get? d = none := by
    cases e : s.heap.get? d with
    | none => rfl
    | some o => exact absurd (hlt (d, o) (mem_all Nd.2.1 e)) (Nat.lt_irrefl _)
  have xn : s.heap.get? x = none := by
    cases e : s.heap.get? x with
    | none => rfl
    | some o => exact absurd (hlt (x, o) (mem_all Nx.2.1 e)) (Nat.not_lt.mpr (Nat.le_of_lt hdx))
  have ne : x ≠ d := Nat.ne_of_gt hdx
  obtain ⟨fx, hx0⟩ := R.fresh xn
  obtain ⟨fd, hd0⟩ := R.fresh dn
  have R' : Rel P D F ⟨σ.loc, upd (upd σ.hp d (.sd none none none none)) x (mk d)⟩ { s with heap := h' } := by
    refine R.changeL O (t := s.toks) (fun _ => False) (fun _ x => x.elim) (fun m' hm' => ns_unique hm' hm ▸ F'.ns) (fun b o _ ne e => hk b o ne e) fun a o e => ?_
    unfold upd at e
    split at e
    · rename_i q; subst q; cases e
      exact .inr ⟨fx, hfz d, hob h' a d Nx.1⟩
    · split at e
      · rename_i q; subst q; cases e
        exact .inr ⟨fd, rfl, sd_empty Nd.1⟩
      · exact .inl ⟨e, id⟩
  obtain ⟨u1, u2, u3, u4⟩ := under_create (A := F.A) (C := C) (rest := us)
  refine codeAny_mono (hC.sim D F O _ u1 u2 u3 (u4.trans (O.hh hc)) hdep _ _ (.ref x :: vs) (.ref x :: us) _ _ R' ⟨rfl, hr⟩ (hp x d hx0 hd0 ne)) ?_
  rintro (e | (_ | _ | _ | v)) s' z
  · obtain ⟨ex, σ', x1, x2, x3⟩ := z
    refine ⟨ex, σ', x1, ?_⟩
    have : σ' = ⟨σ.loc, σ'.hp⟩ := by cases σ'; cases x2; rfl
    rw [this]; exact x3
  · exact z
  · exact z
  · exact z
  · obtain ⟨av, hp', h1, h2, rfl, h3⟩ := z
    exact ⟨h1, .ref x, ⟨σ.loc, hp'⟩, rfl, h2, h3⟩

theorem sim_newS {x : Str} {np pos : Pos} {args : List Expr} {fI : Addr} {dep : Nat} {fp : FP} {p : LP} (hC : ClsOk P P.cS fI dep fp) (hx : x ∈ D.globs) (e : nsIn P.K mainGlobals x = some (some (.ref P.cS))) (ha : SimAr P D args p) (hdep : dep + 1 ≤ D.depth)
    (hs : ∀ env, (backTo pos (starEach args env)).any (·.1) = false := by intro _; rfl) (hc : D.calm = true := by rfl) (hd : (x == ("__debug__" : Str)) = false := by decide) : SimE P D (.Call (.Name x np) args [] pos) (pNewS fp p) := by
  intro F O σ s Q E R hp
  refine wpAny_Call_ofName (glob_fn O R hx e ?_ hd)
  refine callWith_of (P := fun h => P.K.In h) (by rw [hs]; rfl) (keeps_K hC.keep) (wpAny_mono (ha F O _ pos σ s _ E R hp) ?_ fun _ _ x => x)
  rintro a s₁ ⟨hkw, vs, σ₁, hr, R₁, h₁⟩
  refine ⟨O.kin R₁, ?_⟩
  rw [hkw]
  exact code_new (mk := fun d => .inst d) hC O hdep hc (fun _ => rfl) (fun h x d e => e) hr R₁ h₁
theorem sim_newN {x : Str} {np pos : Pos} {args : List Expr} {fI : Addr} {dep : Nat} {fp : FP} {p : LP} (hC : ClsOk P P.cN fI dep fp) (hx : x ∈ D.globs) (e : nsIn P.K mainGlobals x = some (some (.ref P.cN))) (ha : SimAr P D args p) (hdep : dep + 1 ≤ D.depth)
    (hs : ∀ env, (backTo pos (starEach args env)).any (·.1) = false := by intro _; rfl) (hc : D.calm = true := by rfl) (hd : (x == ("__debug__" : Str)) = false := by decide) : SimE P D (.Call (.Name x np) args [] pos) (pNewN fp p) := by
  intro F O σ s Q E R hp
  refine wpAny_Call_ofName (glob_fn O R hx e ?_ hd)
  refine callWith_of (P := fun h => P.K.In h) (by rw [hs]; rfl) (keeps_K hC.keep) (wpAny_mono (ha F O _ pos σ s _ E R hp) ?_ fun _ _ x => x)
  rintro a s₁ ⟨hkw, vs, σ₁, hr, R₁, h₁⟩
  refine ⟨O.kin R₁, ?_⟩
  rw [hkw]
  exact code_new (mk := fun d => .rcd d []) hC O hdep hc (fun _ => rfl) (fun h x d e => ⟨[], e, trivial⟩) hr R₁ h₁

end
end
section
section
variable {P : PC} {D : FD} {F : FX} {σ : St} {s : Shared}

noncomputable def pBi (f : List AV → EP) (p : LP) : EP := fun Q E σ => p (fun vs σ' => f vs Q E σ') E σ

theorem sim_bi {x : Str} {np pos : Pos} {e : Expr} {es : List Expr} {p : LP} {f : List AV → EP} {id : String} (hx : x ∈ D.globs) (hf : freeName P x) (hv : bootBuiltins x = some (.builtin id)) (ha : SimL P D (e :: es) p)
    (hop : ∀ F, FOk P D F → ∀ vs us, Reps vs us → OpSim P D F (call (.builtin id) us) (f vs))
    (he : ∀ env, starEach (e :: es) env = (false, eval e env) :: starEach es env := by intro _; rfl) (hs : ∀ env, (backTo pos (starEach es env)).any (·.1) = false := by intro _; rfl) (hd : (x == ("__debug__" : Str)) = false := by decide) :
    SimE P D (.Call (.Name x np) (e :: es) [] pos) (pBi f p) := by
  intro F O σ s Q E R hp
  refine wpAny_Call_ofName (glob_bi O R hx hf hv ?_ hd)
  refine PyProof.Rows.callWith_builtin1 (wpAny_mono (ha F O pos σ s _ E R hp) ?_ fun _ _ x => x) (he _) (hs _)
  rintro us s₁ ⟨vs, σ₁, hr, R₁, h₁⟩
  exact hop F O vs us hr σ₁ s₁ Q E R₁ h₁
theorem sim_ty {x : Str} {np pos : Pos} {e : Expr} {es : List Expr} {p : LP} {f : List AV → EP} {T : String} (hx : x ∈ D.globs) (hf : freeName P x) (hv : bootBuiltins x = some (.type T)) (ha : SimL P D (e :: es) p)
    (hop : ∀ F, FOk P D F → ∀ vs us, Reps vs us → OpSim P D F (call (.type T) us) (f vs))
    (he : ∀ env, starEach (e :: es) env = (false, eval e env) :: starEach es env := by intro _; rfl) (hs : ∀ env, (backTo pos (starEach es env)).any (·.1) = false := by intro _; rfl) (hd : (x == ("__debug__" : Str)) = false := by decide) :
    SimE P D (.Call (.Name x np) (e :: es) [] pos) (pBi f p) := by
  intro F O σ s Q E R hp
  refine wpAny_Call_ofName (glob_bi O R hx hf hv ?_ hd)
  refine PyProof.Rows.callWith_type1 (wpAny_mono (ha F O pos σ s _ E R hp) ?_ fun _ _ x => x) (he _) (hs _)
  rintro us s₁ ⟨vs, σ₁, hr, R₁, h₁⟩
  exact hop F O vs us hr σ₁ s₁ Q E R₁ h₁

-- len
noncomputable def opLen : List AV → EP
  | [.ref a] => fun Q _ σ => (∃ l, σ.lst a = some l ∧ Q (.int l.length) σ) ∨ (∃ l, σ.hp a = some (.tup l) ∧ Q (.int l.length) σ)
  | _ => fun _ _ _ => False
theorem op_len (vs : List AV) (us : List Value) (hr : Reps vs us) : OpSim P D F (call (.builtin "len") us) (opLen vs) := by
  intro σ s Q E R h
  match vs, hr, h with
  | [.ref a], hr, h =>
    obtain ⟨u, rfl, hu⟩ := hr.one
    subst hu
    rcases h with ⟨l, h1, h2⟩ | ⟨l, h1, h2⟩
    · obtain ⟨vs, e, r, hz⟩ := R.isList h1
      have := r.length
      exact PyProof.Rows.len_list e (by rw [List.size_toArray]; (first | lia | omega)) (.int R.toks h2 (by rw [List.size_toArray, this]))
    · obtain ⟨vs, n, e, r, hz⟩ := R.tup h1
      have := r.length
      exact PyProof.Rows.len_tuple (items := vs.toArray) ⟨_, e, rfl, n, rfl⟩ (by rw [List.size_toArray]; (first | lia | omega)) (.int R.toks h2 (by rw [List.size_toArray, this]))

-- sum
theorem ints_items : ∀ {vs : List Value} {ns : List Int}, IntsAre vs ns → ∃ xs : List (Int × Tok), vs = xs.map (fun x => .int x.1 x.2) ∧ xs.map (·.1) = ns
  | _, _, .nil => ⟨[], rfl, rfl⟩
  | _, _, .cons n t h => by
    obtain ⟨xs, h1, h2⟩ := ints_items h
    exact ⟨(n, t) :: xs, by rw [h1]; rfl, by rw [← h2]; rfl⟩
noncomputable def opSum : List AV → EP
  | [.ref a] => fun Q _ σ => ∃ ns, σ.lst a = some (intsA ns) ∧ Q (.int ns.sum) σ
  | _ => fun _ _ _ => False
theorem op_sum (O : FOk P D F) (hc : D.calm = true) (vs : List AV) (us : List Value) (hr : Reps vs us) : OpSim P D F (call (.builtin "sum") us) (opSum vs) := by
  intro σ s Q E R h
  match vs, hr, h with
  | [.ref a], hr, h =>
    obtain ⟨u, rfl, hu⟩ := hr.one
    subst hu
    obtain ⟨ns, h1, h2⟩ := h
    obtain ⟨vs, e, r, hz⟩ := R.isList h1
    obtain ⟨m, hm, _⟩ := R.ns
    have hI := r.ints
    have := sum_intsIG (prog := P.prog) (w := P.w) (A := F.A) (E := RX P D F E) (s₀ := s) (s := s) (L := s.heap.objs.size) (m := m) (l := a) (items := vs.toArray) (Q := RE P D F Q) (O.hh hc)
    obtain ⟨xs, hx1, hx2⟩ := ints_items hI
    subst hx1
    refine sum_intListG (xs := xs.toArray) (O.hh hc) (by simpa [intItems] using e) fun h' tk t' hk => ?_
    refine .int (R.ext hk) h2 ?_
    rw [preSum_eq, List.take_of_length_le (by simp), ← hx2]

-- min, max
noncomputable def opMin2 : List AV → EP
  | [.int x, .int y] => fun Q _ σ => Q (.int (min x y)) σ
  | [.ref a] => fun Q _ σ => ∃ ns, σ.lst a = some (intsA ns) ∧ ns ≠ [] ∧ ∀ m, m ∈ ns → (∀ x ∈ ns, m ≤ x) → Q (.int m) σ
  | _ => fun _ _ _ => False
noncomputable def opMax2 : List AV → EP
  | [.int x, .int y] => fun Q _ σ => Q (.int (max x y)) σ
  | [.ref a] => fun Q _ σ => ∃ ns, σ.lst a = some (intsA ns) ∧ ns ≠ [] ∧ ∀ m, m ∈ ns → (∀ x ∈ ns, x ≤ m) → Q (.int m) σ
  | _ => fun _ _ _ => False
theorem Rel.all' (R : Rel P D F σ s) (O : FOk P D F) {m : Str → Option Value} {h' : Heap} {t : Nat} (hm : s.heap.Ns F.L m) (F' : Fr noHeap F.L h' m) (N' : News noHeap F.L h' (allBut F.L s.heap)) : Rel P D F σ { s with heap := h', toks := t } :=
  R.growL O hm F'.ns fun b o ne e => (N' _ (mem_all ne e)).1
theorem op_min (O : FOk P D F) (hc : D.calm = true) (vs : List AV) (us : List Value) (hr : Reps vs us) : OpSim P D F (call (.builtin "min") us) (opMin2 vs) := by
  intro σ s Q E R h
  obtain ⟨m, Fm, hm⟩ := R.fr
  match vs, hr, h with
  | [.int x, .int y], hr, h =>
    obtain ⟨u, v, rfl, ⟨t, hu⟩, t', hv⟩ := hr.two
    subst hu hv
    refine min_two_N (O.hh hc) Fm (news_all F.L s.heap) fun h' tk F' N' => .int (R.all' O hm F' N') h ?_
    split <;> (first | lia | omega)
  | [.ref a], hr, h =>
    obtain ⟨u, rfl, hu⟩ := hr.one
    subst hu
    obtain ⟨ns, h1, h2, h3⟩ := h
    obtain ⟨vs, e, r, hz⟩ := R.isList h1
    refine kso_min Fm (news_all F.L s.heap) e r.ints (List.length_pos_iff.mpr h2) (O.hh hc) fun h' M t tk F' N' a1 a2 => .int (R.all' O hm F' N') (h3 M a1 a2)
theorem op_max (O : FOk P D F) (hc : D.calm = true) (vs : List AV) (us : List Value) (hr : Reps vs us) : OpSim P D F (call (.builtin "max") us) (opMax2 vs) := by
  intro σ s Q E R h
  obtain ⟨m, Fm, hm⟩ := R.fr
  match vs, hr, h with
  | [.int x, .int y], hr, h =>
    obtain ⟨u, v, rfl, ⟨t, hu⟩, t', hv⟩ := hr.two
    subst hu hv
    refine max_two_N (O.hh hc) Fm (news_all F.L s.heap) fun h' tk F' N' => .int (R.all' O hm F' N') h ?_
    split <;> (first | lia | omega)
  | [.ref a], hr, h =>
    obtain ⟨u, rfl, hu⟩ := hr.one
    subst hu
    obtain ⟨ns, h1, h2, h3⟩ := h
    obtain ⟨vs, e, r, hz⟩ := R.isList h1
    refine kso_max Fm (news_all F.L s.heap) e r.ints (List.length_pos_iff.mpr h2) (O.hh hc) fun h' M t tk F' N' a1 a2 => .int (R.all' O hm F' N') (h3 M a1 a2)
noncomputable def opAbs : List AV → EP
  | [.int x] => fun Q _ σ => Q (.int (x.natAbs)) σ
  | _ => fun _ _ _ => False
-- tuple(list), list(list | tuple), sorted
noncomputable def opTuple : List AV → EP
  | [.ref l] => fun Q _ σ => ∃ xs, σ.hp l = some (.list xs) ∧ ∀ a, σ.hp a = none → Q (.ref a) ⟨σ.loc, upd σ.hp a (.tup xs)⟩
  | _ => fun _ _ _ => False
theorem op_tuple (vs : List AV) (us : List Value) (hr : Reps vs us) : OpSim P D F (call (.type "tuple") us) (opTuple vs) := by
  intro σ s Q E R h
  match vs, hr, h with
  | [.ref l], hr, h =>
    obtain ⟨u, rfl, hu⟩ := hr.one
    subst hu
    obtain ⟨xs, h1, h2⟩ := h
    obtain ⟨vs, n, e, r, hz⟩ := R.plain h1
    refine call_tuple_list (items := vs.toArray) ⟨_, e, rfl, n, rfl⟩ (fun h' hk => ?_) (by rw [List.size_toArray, sizeLine_eq, ← r.length]; (first | lia | omega))
    have R' := R.ext (t := s.toks) hk
    exact .ref (R'.push _ (.tup xs) rfl ⟨vs, 0, Heap.get?_push_size _ rfl, r, hz⟩) (h2 _ (R'.fresh (heap_size_none _)).2)
noncomputable def opList : List AV → EP
  | [.ref l] => fun Q _ σ => ∃ xs, (σ.lst l = some xs ∨ σ.hp l = some (.tup xs)) ∧ ∀ a, σ.hp a = none → Q (.ref a) ⟨σ.loc, upd σ.hp a (.list xs)⟩
  | _ => fun _ _ _ => False
theorem intsA_of : ∀ {vs : List Value} {ns : List Int}, IntsAre vs ns → Reps (intsA ns) vs
  | _, _, .nil => trivial
  | _, _, .cons n t h => ⟨⟨t, rfl⟩, intsA_of h⟩

noncomputable def opSorted : List AV → EP
  | [.ref l] => fun Q _ σ => ∃ ns, (σ.lst l = some (intsA ns) ∨ σ.hp l = some (.tup (intsA ns))) ∧ ns.length < 64 ∧ ∀ a ns', σ.hp a = none → ns'.Perm ns → ns'.Pairwise (· ≤ ·) → Q (.ref a) ⟨σ.loc, upd σ.hp a (.list (intsA ns'))⟩
  | _ => fun _ _ _ => False

theorem sorted_seq {a : Addr} {T : String} {o : Obj} {n : Nat} {vs : List Value} {ns : List Int} {A : Around} {Q : Value → Shared → Prop} {E : Value → Shared → Prop} (hT : T = "list" ∨ T = "tuple") (ho : s.heap.get? a = some o) (hc : o.cls = .type T) (hd : o.data = .seq vs.toArray n) (hI : IntsAre vs ns) (h64 : vs.length < 64)
    (h : ∀ (h' : Heap) (b : Addr) (vs' : List Value) (ns' : List Int) (e : Nat), (∀ b o, s.heap.get? b = some o → h'.get? b = some o) → s.heap.get? b = none → h'.get? b = some (seqObj "list" vs'.toArray e) → IntsAre vs' ns' → ns'.Perm ns → ns'.Pairwise (· ≤ ·) → Q (.ref b) { s with heap := h' }) :
    wpAny (model P.prog P.w) A (call (.builtin "sorted") [.ref a]) Q E s := by
  refine Calls.call_function_entry kind_sorted plain_sorted entry_sorted (args_sorted1 _) ?_
  unfold Builtin.«sorted»
  refine wpAny_bind (m := checkCount "sorted" 1 1 _) (wpAny_pure ?_)
  refine wpAny_bind (wpAny_collect_seq a hT ho hc hd (fun h₁ hk₁ => ?_) (by rw [List.size_toArray, sizeLine_eq]; (first | lia | omega)))
  refine wpAny_bind (wpAny_newList ?_ (by have : vs.toArray.toList.length = vs.length := rfl; have e := sizeLine_eq; (first | lia | omega)))
  have hoL : (h₁.push (seqObj "list" vs.toArray 0)).get? h₁.objs.size = some (seqObj "list" vs.toArray 0) := Heap.get?_push_size _ rfl
  refine wpAny_bind (wpAny_holding (wpAny_call_entry (s := { s with heap := h₁.push (seqObj "list" vs.toArray 0) }) slot_list_sort ⟨_, hoL, rfl⟩ entry_list_sort (list_sort_tree hoL hI h64 fun out ns' a1 a2 a3 => ⟨_, rfl, ?_⟩) (args_list_sort _)))
  refine wpAny_pure ⟨_, rfl, ?_⟩
  obtain ⟨e, he⟩ := sortedHeap_at (n := 0) (vs := vs) (out := out) hoL
  refine h _ _ out.toList ns' e (fun b o hb => ?_) ?_ he a1 a2 a3
  · have h2 := hk₁ b o hb
    have hlt := Heap.lt_size h2
    rw [sortedHeap_old (Nat.ne_of_lt hlt) (by rw [size_push']; exact Nat.lt_succ_of_lt hlt)]
    exact Heap.get?_push_of_some _ h2
  · cases q : s.heap.get? h₁.objs.size with
    | none => rfl
    | some o => exact absurd (Heap.lt_size (hk₁ _ _ q)) (Nat.lt_irrefl _)
theorem op_sorted (vs : List AV) (us : List Value) (hr : Reps vs us) : OpSim P D F (call (.builtin "sorted") us) (opSorted vs) := by
  intro σ s Q E R h
  match vs, hr, h with
  | [.ref l], hr, h =>
    obtain ⟨u, rfl, hu⟩ := hr.one
    subst hu
    obtain ⟨ns, h1, h64, h2⟩ := h
    have fin : ∀ (T : String) (hT : T = "list" ∨ T = "tuple") (vs : List Value) (n : Nat) (o : Obj), s.heap.get? l = some o → o.cls = .type T → o.data = .seq vs.toArray n → Reps (intsA ns) vs → wpAny (model P.prog P.w) F.A (call (.builtin "sorted") [.ref l]) (RE P D F Q) (RX P D F E) s := by
      intro T hT vs n o ho hc hd r
      refine sorted_seq hT ho hc hd r.ints (by rw [← r.length]; simpa using h64) fun h' b vs' ns' e hk hn hb a1 a2 a3 => ?_
      have R' := R.ext (t := s.toks) hk
      refine .ref (R.change (t := s.toks) (hp' := upd σ.hp b (.list (intsA ns'))) (fun _ => False) (fun _ x => x.elim) (fun b o _ e => hk b o e) fun c oc ec => ?_) (h2 b ns' (R.fresh hn).2 a2 a3)
      unfold upd at ec
      split at ec
      · rename_i q; subst q; cases ec
        exact .inr ⟨(R.fresh hn).1, rfl, ⟨vs', e, hb, intsA_of a1, by rw [List.length_map, a2.length_eq]; (first | lia | omega)⟩⟩
      · exact .inl ⟨ec, id⟩
    rcases h1 with h1 | h1
    · obtain ⟨vs, ⟨o, ho, hc, n, hd⟩, r, hz⟩ := R.isList h1
      exact fin "list" (.inl rfl) vs n o ho hc hd r
    · obtain ⟨vs, n, e, r, hz⟩ := R.tup h1
      exact fin "tuple" (.inr rfl) vs n _ e rfl rfl r

end
end
section
section
variable {P : PC} {D : FD} {F : FX} {σ : St} {s : Shared}

/-- the built-in type that an object of the text's is of -/
noncomputable def AObj.ty : AObj → Option String
  | .list _ => some "list"
  | .dict _ _ => some "dict"
  | .set _ _ => some "set"
  | _ => none
theorem ty_is (R : Rel P D F σ s) {a : Addr} {o : AObj} {T : String} (h : σ.hp a = some o) (hT : o.ty = some T) : s.TypeIs (.ref a) T ∧ ∃ ob, s.heap.get? a = some ob ∧ ob.dict = none := by
  have x := (R.hp a o h).1
  cases o <;> simp only [AObj.ty] at hT <;> cases hT
  · obtain ⟨vs, n, e, _⟩ := x; exact ⟨⟨_, e, rfl⟩, _, e, rfl⟩
  · obtain ⟨kvs, ⟨o, es, e, hx, _⟩, _⟩ := x; exact ⟨⟨o, e, hx.1⟩, o, e, hx.2.1⟩
  · obtain ⟨o, es, ep, t, e, hx, _⟩ := x; exact ⟨⟨o, e, hx.1⟩, o, e, hx.2.1⟩

noncomputable def pBm (T : String) (f : AV → List AV → EP) (o : EP) (p : LP) : EP := fun Q E σ => o (fun ov σ₁ => (∃ a ob, ov = .ref a ∧ σ₁.hp a = some ob ∧ ob.ty = some T) ∧ p (fun vs σ₂ => f ov vs Q E σ₂) E σ₁) E σ

theorem sim_bm {o : Expr} {x : Str} {apos pos : Pos} {args : List Expr} {T id : String} {po : EP} {p : LP} {f : AV → List AV → EP} (pa : PlainAttrs T) (slot : Slot T x id) (hty : typeOf (.builtin id) = pure (.type "method_descriptor")) (ho : SimE P D o po) (ha : SimAr P D args p)
    (hop : ∀ F, FOk P D F → ∀ ov vs u us, ov.rep u → Reps vs us → OpSim P D F (call (.builtin id) (u :: us)) (f ov vs))
    (hs : ∀ env, (backTo pos (starEach args env)).any (·.1) = false := by intro _; rfl)
    (hbase : ∀ env, attributeBase o x env (eval o env) = eval o env := by intro _; rfl)
    (hfew : ∀ env, methodCallForm (args.length + ([] : List Keyword).length) (backTo pos (starEach args env)) (backToKw pos (keywordEach [] env)) = true := by intro _; rfl)
    (hline : (apos.endLine == pos.line) = true := by rfl) : SimE P D (.Call (.Attribute o x apos) args [] pos) (pBm T f po p) := by
  intro F O σ s Q E R hp
  rw [arm_eval_Call, hbase]
  refine wpAny_bind (wpAny_mono (ho F O σ s _ E R hp) ?_ fun _ _ x => x)
  rintro ov s₁ ⟨av, σ₁, hav, R₁, ⟨a, ob, rfl, h1, h2⟩, h₁⟩
  subst hav
  refine wpAny_bind (wpAny_standAt ?_)
  have hpos : methodCallPos true o F.env apos pos = pure pos := by unfold methodCallPos; simp [hline]
  obtain ⟨t1, ob', t2, t3⟩ := ty_is R₁ h1 h2
  unfold methodCall
  rw [hfew]
  refine wpAny_bind (wpAny_holding (getMethod_builtin t1 pa slot hty (fun a' e => by cases e; exact ⟨ob', t2, t3⟩) ?_))
  refine wpAny_bind (wpAny_of_eq hpos ?_)
  refine callWith_builtin (hs _) (wpAny_mono (ha F O _ pos σ₁ s₁ _ E R₁ h₁) ?_ fun _ _ x => x)
  rintro ar s₂ ⟨hkw, vs, σ₂, hr, R₂, h₂⟩
  rw [hkw]
  exact hop F O (.ref a) vs (.ref a) ar.pos rfl hr σ₂ s₂ Q E R₂ h₂

noncomputable def opAppend : AV → List AV → EP
  | .ref a, [v] => fun Q _ σ => ∃ l, σ.hp a = some (.list l) ∧ l.length < 1000000 ∧ Q .none ⟨σ.loc, upd σ.hp a (.list (l ++ [v]))⟩
  | _, _ => fun _ _ _ => False
theorem op_append (ov : AV) (vs : List AV) (u : Value) (us : List Value) (hu : ov.rep u) (hr : Reps vs us) : OpSim P D F (call (.builtin "list.append") (u :: us)) (opAppend ov vs) := by
  intro σ s Q E R h
  match ov, vs, hu, hr, h with
  | .ref a, [v], hu, hr, h =>
    obtain ⟨w, rfl, hv⟩ := hr.one
    subst hu
    obtain ⟨l, h1, h2, h3⟩ := h
    obtain ⟨xs, n, e, r, hz⟩ := R.plain h1
    have hl := r.length
    refine wpAny_list_append_plain (items := xs.toArray) ⟨n, e⟩ (fun h' hp' hs' => ?_) (by rw [List.size_toArray, sizeLine_eq]; (first | lia | omega))
    obtain ⟨n', e'⟩ := hp'
    refine .none (R.set (o' := .list (l ++ [v])) (t := s.toks) h1 rfl hs' rfl ⟨xs ++ [w], n', e'.trans (by simp [W.listOf]), r.append ⟨hv, trivial⟩, by rw [List.length_append]; simp; (first | lia | omega)⟩) h3

theorem upd_seq (R : Rel P D F σ s) {a : Addr} {l l' : List AV} {xs xs' : List Value} {n t : Nat} {f : Array Value → Array Value} (h1 : σ.hp a = some (.list l)) (e : s.heap.get? a = some (W.listOf xs.toArray n)) (hf : f xs.toArray = xs'.toArray) (hr : Reps l' xs') (hz : l'.length ≤ 1000000) :
    Rel P D F ⟨σ.loc, upd σ.hp a (.list l')⟩ { s with heap := s.heap.update a (Obj.mapSeq f), toks := t } := R.setList h1 e hf hr hz

noncomputable def opExtend : AV → List AV → EP
  | .ref a, [.ref b] => fun Q _ σ => ∃ l m, σ.hp a = some (.list l) ∧ (σ.hp b = some (.list m) ∨ σ.hp b = some (.tup m)) ∧ l.length + m.length ≤ 1000000 ∧ Q .none ⟨σ.loc, upd σ.hp a (.list (l ++ m))⟩
  | _, _ => fun _ _ _ => False
theorem op_extend (ov : AV) (vs : List AV) (u : Value) (us : List Value) (hu : ov.rep u) (hr : Reps vs us) : OpSim P D F (call (.builtin "list.extend") (u :: us)) (opExtend ov vs) := by
  intro σ s Q E R h
  match ov, vs, hu, hr, h with
  | .ref a, [.ref b], hu, hr, h =>
    obtain ⟨w, rfl, hv⟩ := hr.one
    subst hu
    subst hv
    obtain ⟨l, m, h1, h2, hz, h3⟩ := h
    obtain ⟨xs, n, e, r, _⟩ := R.plain h1
    have hl := r.length
    have hlong : ∀ k : Nat, k ≤ 1000000 → Builtin.List.listTooLong k = false := by
      intro k hk
      unfold Builtin.List.listTooLong
      have := sizeLine_eq
      simp only [decide_eq_false_iff_not]
      (first | lia | omega)
    rcases h2 with h2 | h2
    · obtain ⟨ys, n2, e2, r2, _⟩ := R.plain h2
      have hl2 := r2.length
      refine call_meets PySem.F.slot_list_extend ⟨_, e, rfl⟩ PySem.F.entry_list_extend (PySem.F.args_list_extend_2 _ _) (PySem.AutoSeq1.list_extend_list_list_0 a xs.toArray n b ys.toArray n2 (by rw [List.size_toArray, List.size_toArray, hlong _ (by (first | lia | omega))]; simp) (by rw [List.size_toArray, sizeLine_eq]; (first | lia | omega)) (by rw [List.size_toArray, List.size_toArray, sizeLine_eq]; (first | lia | omega))) ⟨e, e2, ?_⟩
      exact RE.none (upd_seq R (xs' := xs ++ ys) h1 e (by simp) (r.append r2) (by rw [List.length_append]; exact hz)) h3
    · obtain ⟨ys, n2, e2, r2, _⟩ := R.tup h2
      have hl2 := r2.length
      refine call_meets PySem.F.slot_list_extend ⟨_, e, rfl⟩ PySem.F.entry_list_extend (PySem.F.args_list_extend_2 _ _) (PySem.AutoSeq1.list_extend_list_tuple_0 a xs.toArray n b ys.toArray n2 (by rw [List.size_toArray, List.size_toArray, hlong _ (by (first | lia | omega))]; simp) (by rw [List.size_toArray, sizeLine_eq]; (first | lia | omega)) (by rw [List.size_toArray, List.size_toArray, sizeLine_eq]; (first | lia | omega))) ⟨e, e2, ?_⟩
      exact RE.none (upd_seq R (xs' := xs ++ ys) h1 e (by simp) (r.append r2) (by rw [List.length_append]; exact hz)) h3

noncomputable def opClear : AV → List AV → EP
  | .ref a, [] => fun Q _ σ => ∃ l, σ.hp a = some (.list l) ∧ Q .none ⟨σ.loc, upd σ.hp a (.list [])⟩
  | _, _ => fun _ _ _ => False
theorem op_clear (ov : AV) (vs : List AV) (u : Value) (us : List Value) (hu : ov.rep u) (hr : Reps vs us) : OpSim P D F (call (.builtin "list.clear") (u :: us)) (opClear ov vs) := by
  intro σ s Q E R h
  match ov, vs, hu, hr, h with
  | .ref a, [], hu, hr, h =>
    cases hr.nil_inv
    subst hu
    obtain ⟨l, h1, h3⟩ := h
    obtain ⟨xs, n, e, r, hz⟩ := R.plain h1
    have hl := r.length
    refine call_meets PySem.F.slot_list_clear ⟨_, e, rfl⟩ PySem.F.entry_list_clear (PySem.F.args_list_clear_1 _) (PySem.AutoSeq1.list_clear_list_0 a xs.toArray n (by rw [List.size_toArray, sizeLine_eq]; (first | lia | omega))) ⟨e, ?_⟩
    exact RE.none (upd_seq R (l' := []) (xs' := []) h1 e rfl trivial (by simp)) h3

/-- pop(), pop(i) -/
noncomputable def opPop : AV → List AV → EP
  | .ref a, [] => fun Q _ σ => ∃ l v, σ.hp a = some (.list (l ++ [v])) ∧ Q v ⟨σ.loc, upd σ.hp a (.list l)⟩
  | .ref a, [.int i] => fun Q _ σ => ∃ l v, σ.hp a = some (.list l) ∧ 0 ≤ i ∧ l[i.toNat]? = some v ∧ Q v ⟨σ.loc, upd σ.hp a (.list (l.eraseIdx i.toNat))⟩
  | _, _ => fun _ _ _ => False
theorem erase_arr (xs : List Value) (k : Nat) : xs.toArray.eraseIdxIfInBounds k = (xs.eraseIdx k).toArray := by
  apply Array.toList_inj.mp
  rw [Array.toList_eraseIdxIfInBounds]
theorem op_pop (ov : AV) (vs : List AV) (u : Value) (us : List Value) (hu : ov.rep u) (hr : Reps vs us) : OpSim P D F (call (.builtin "list.pop") (u :: us)) (opPop ov vs) := by
  intro σ s Q E R h
  match ov, vs, hu, hr, h with
  | .ref a, [], hu, hr, h =>
    cases hr.nil_inv
    subst hu
    obtain ⟨l, v, h1, h3⟩ := h
    obtain ⟨xs, n, e, r, hz⟩ := R.plain h1
    have hl := r.length
    rw [List.length_append, List.length_singleton] at hl hz
    obtain ⟨y, hy, hv⟩ := r.get l.length (a := v) (by simp)
    have hsz : xs.toArray.size - 1 = l.length := by rw [List.size_toArray]; (first | lia | omega)
    refine call_meets PySem.F.slot_list_pop ⟨_, e, rfl⟩ PySem.F.entry_list_pop (PySem.F.args_list_pop_1 _) (PySem.MeetsSeq.list_pop_last a xs.toArray n y (by rw [hsz]; simpa using hy) (by rw [List.size_toArray, sizeLine_eq]; (first | lia | omega))) ⟨e, ?_⟩
    refine ⟨v, _, hv, upd_seq R (l' := l) (xs' := xs.eraseIdx l.length) (t := s.toks) h1 e (by rw [hsz]; exact erase_arr _ _) ?_ (by (first | lia | omega)), h3⟩
    have := r.eraseIdx l.length
    rwa [List.eraseIdx_append_of_length_le (Nat.le_refl _), Nat.sub_self, List.eraseIdx_zero, List.tail_cons, List.append_nil] at this
  | .ref a, [.int i], hu, hr, h =>
    obtain ⟨w, rfl, t, hw⟩ := hr.one
    subst hu hw
    obtain ⟨l, v, h1, h0, h2, h3⟩ := h
    obtain ⟨xs, n, e, r, hz⟩ := R.plain h1
    have hl := r.length
    obtain ⟨y, hy, hv⟩ := r.get i.toNat h2
    have hlt : i.toNat < l.length := (List.getElem?_eq_some_iff.mp h2).1
    have hfit : Builtin.List.listFitsIndex i = true := by
      unfold Builtin.List.listFitsIndex
      simp only [Bool.and_eq_true, decide_eq_true_eq]; (first | lia | omega)
    have hidx : seqIndex? i xs.toArray.size = some i.toNat := by
      have h5 : ¬ i < 0 := by (first | lia | omega)
      have h6 : (decide (0 ≤ i) && decide (i < (xs.toArray.size : Int))) = true := by rw [List.size_toArray]; simp only [Bool.and_eq_true, decide_eq_true_eq]; (first | lia | omega)
      simp only [seqIndex?, if_neg h5, if_pos h6]
    refine call_meets PySem.F.slot_list_pop ⟨_, e, rfl⟩ PySem.F.entry_list_pop (PySem.F.args_list_pop_2 _ _) (PySem.MeetsSeq.list_pop_at a xs.toArray n i t _ y hfit hidx (by simpa using hy) (by rw [List.size_toArray, sizeLine_eq]; (first | lia | omega))) ⟨e, ?_⟩
    exact ⟨v, _, hv, upd_seq R (xs' := xs.eraseIdx i.toNat) (t := s.toks) h1 e (erase_arr _ _) (r.eraseIdx _) (by have := List.length_eraseIdx_le l i.toNat; (first | lia | omega)), h3⟩


noncomputable def isI (x : Int) : Value → Bool
  | .int n _ => n == x
  | _ => false
noncomputable def opCount : AV → List AV → EP
  | .ref a, [.int x] => fun Q _ σ => ∃ ns, σ.hp a = some (.list (intsA ns)) ∧ Q (.int (ns.count x)) σ
  | _, _ => fun _ _ _ => False
noncomputable def opIndex : AV → List AV → EP
  | .ref a, [.int x] => fun Q _ σ => ∃ ns, σ.hp a = some (.list (intsA ns)) ∧ x ∈ ns ∧ Q (.int (ns.idxOf x)) σ
  | _, _ => fun _ _ _ => False
-- d.get(k)
noncomputable def opGet : AV → List AV → EP
  | .ref a, [.int k] => fun Q _ σ => ∃ es ep, σ.hp a = some (.dict es ep) ∧ Q (((es.find? fun e => e.1 = k).map (·.2)).getD .none) σ
  | _, _ => fun _ _ _ => False
theorem dict_value_none : ∀ {es : List (Int × AV)} {kvs : List (Int × Value)} (_ : dictEs es kvs) (k : Int), (es.find? fun e => e.1 = k).map (·.2) = none → valueAt kvs k = none
  | [], [], _, _, _ => rfl
  | e :: es, x :: kvs, ⟨h1, h2⟩, k, h => by
    simp only [List.map_cons, List.cons.injEq] at h1
    obtain ⟨h3, h4⟩ := h2
    unfold valueAt
    rw [List.find?_cons] at h ⊢
    rw [h1.1]
    by_cases hk : e.1 = k
    · simp [hk] at h
    · simp only [hk, decide_false] at h ⊢
      exact dict_value_none ⟨h1.2, h4⟩ k h
  | [], _ :: _, ⟨h1, _⟩, _, _ => by simp at h1
  | _ :: _, [], ⟨h1, _⟩, _, _ => by simp at h1
theorem op_get (ov : AV) (vs : List AV) (u : Value) (us : List Value) (hu : ov.rep u) (hr : Reps vs us) : OpSim P D F (call (.builtin "dict.get") (u :: us)) (opGet ov vs) := by
  intro σ s Q E R h
  match ov, vs, hu, hr, h with
  | .ref a, [.int k], hu, hr, h =>
    obtain ⟨w, rfl, t, hw⟩ := hr.one
    subst hu hw
    obtain ⟨es, ep, h1, h3⟩ := h
    obtain ⟨kvs, hd, hes, hsys, hz⟩ := (R.hp a _ h1).1
    have key : ∃ av : AV, ((es.find? fun e => e.1 = k).map (·.2)).getD .none = av ∧ av.rep ((valueAt kvs k).getD .none) := by
      cases q : (es.find? fun e => e.1 = k).map (·.2) with
      | none => rw [dict_value_none hes k q]; exact ⟨.none, rfl, rfl⟩
      | some v => obtain ⟨u', h4, h5⟩ := dict_value hes k q; rw [h4]; exact ⟨v, rfl, h5⟩
    obtain ⟨av, e1, e2⟩ := key
    rw [e1] at h3
    exact call_meetsIn PySem.F.slot_dict_get hd.dictOf.typeIs PySem.F.entry_dict_get (PySem.F.args_dict_get_2 _ _) (meets_dict_get (intKind P.prog P.w) a (k := k) (key := .int k t) (by simp [intKind, Value.isInt]) hsys) ⟨_, hd.dictOf.mapOf, av, σ, e2, R.toks, h3⟩

-- sets
noncomputable def opAdd' : AV → List AV → EP
  | .ref a, [.int k] => fun Q _ σ => ∃ S n, σ.hp a = some (.set S n) ∧ n < 4000 ∧ Q .none ⟨σ.loc, upd σ.hp a (.set (fun k' => S k' || decide (k' = k)) (if S k then n else n + 1))⟩
  | _, _ => fun _ _ _ => False

theorem op_setAdd (ov : AV) (vs : List AV) (u : Value) (us : List Value) (hu : ov.rep u) (hr : Reps vs us) : OpSim P D F (call (.builtin "set.add") (u :: us)) (opAdd' ov vs) := by
  intro σ s Q E R h
  match ov, vs, hu, hr, h with
  | .ref a, [.int k], hu, hr, h =>
    obtain ⟨w, rfl, t, hw⟩ := hr.one
    subst hu hw
    obtain ⟨S, n, h1, h2, h3⟩ := h
    have hS := (R.hp a _ h1).1
    refine call_set_add (knd := intKind P.prog P.w) (k := k) (by simp [intKind, Value.isInt]) rfl hS (by unfold scanBound; (first | lia | omega)) fun h' hs hS' => ?_
    exact RE.none (R.set (o' := .set _ _) h1 rfl hs rfl hS') h3

/-- set() -/
noncomputable def opSet0 : EP := fun Q _ σ => ∀ a, σ.hp a = none → Q (.ref a) ⟨σ.loc, upd σ.hp a (.set (fun _ => false) 0)⟩
theorem sim_set0 {x : Str} {np pos : Pos} (hx : x ∈ D.globs) (hf : freeName P x) (hv : bootBuiltins x = some (.type "set")) (hd : (x == ("__debug__" : Str)) = false := by decide) : SimE P D (.Call (.Name x np) [] [] pos) opSet0 := by
  intro F O σ s Q E R hp
  refine wpAny_Call_ofName (glob_bi O R hx hf hv ?_ hd)
  obtain ⟨m, Fm, hm⟩ := R.fr
  refine callWith_type0 (newSet_N Fm (news_all F.L s.heap) fun h' led F' N' => ?_)
  refine .ref (R.pushed O (o := .set (fun _ => false) 0) (t := s.toks) hm F' N' rfl fun e => ?_) (hp _ (R.fresh (heap_size_none _)).2)
  exact (setObjOf_fresh led).setOf e (by unfold scanBound; (first | lia | omega))

end
end
section
section
variable {P : PC} {D : FD} {F : FX} {σ : St} {s : Shared}

theorem lets_of {A : Around} {I : Addr} {o : Obj} {n : String} {t : Expr} {u : Value} {Q : Unit → Shared → Prop} {E : Value → Shared → Prop} (ho : s.heap.get? I = some o) (hc : o.cls = .type n)
    (hn : (["enumerate", "zip", "dict_itemiterator", "dict_reverseitemiterator", "odict_iterator", "itertools.zip_longest", "itertools.pairwise"].contains n) = false) (h : Q () s) : wpAny (model P.prog P.w) A (letOwnedTupleGo t (.ref I) u) Q E s := by
  have main : ∀ (b : Addr), wpAny (model P.prog P.w) A (do
      let o ← load I
      match o.cls, o.data with
      | .type n, .fields vs =>
        if ["enumerate", "zip", "dict_itemiterator", "dict_reverseitemiterator", "odict_iterator", "itertools.zip_longest", "itertools.pairwise"].contains n && vs[0]? == some (rawInt b) then
          rule "for.unpacks-the-owned-tuple"
          updateField I 0 .none
      | _, _ => pure ()) Q E s := by
    intro b
    refine wpAny_bind (wpAny_load ho ?_)
    rw [hc]
    split
    · rename_i n' vs h1 h2
      cases h1
      rw [hn]
      exact wpAny_pure h
    · exact wpAny_pure h
  unfold letOwnedTupleGo
  split
  · cases u with
    | ref b => exact main b
    | _ => exact wpAny_pure h
  · cases u with
    | ref b => exact main b
    | _ => exact wpAny_pure h
  · exact wpAny_pure h

theorem itOk_list {A : Around} (hh : A.handled = none) {I a : Addr} {items : List AV} : ItOk P D A I items (fun σ => σ.lst a = some items) (fun i o => o.cls = .type "list_iterator" ∧ o.data = .fields #[.ref a, .int i 0]) where
  noCell := fun i o h v hv => by rw [h.2] at hv; cases hv
  self := fun i o s Q E h hI hq => wpAny_pyIter_listiter ⟨o, hI, h⟩ hq
  lets := fun i o t u s Q E h hI hq => lets_of hI h.1 (by decide) hq
  next := fun F σ s i o v Q E hA R hg hI ho hv h => by
    obtain ⟨vs, e, r, hz⟩ := R.isList hg
    obtain ⟨u, hu, hrep⟩ := r.get i hv
    refine wpAny_pyNext_list_item ⟨o, hI, ho⟩ e (by simpa using hu) fun h' hi' hs => ?_
    obtain ⟨o', ho', hc'⟩ := hi'
    exact h u h' s.toks o' hrep (fun b ob ne e => (hs.2 b ne).trans e) ho' hc'
  done := fun F σ s i o Q E hA R hg hI ho hv h => by
    obtain ⟨vs, e, r, hz⟩ := R.isList hg
    have hlen := r.length
    have : vs[i]? = none := by rw [List.getElem?_eq_none_iff] at hv ⊢; (first | lia | omega)
    exact wpAny_pyNext_list_end hh ⟨o, hI, ho⟩ e (by simpa using this) fun h' hx => h h' s.toks fun b ob ne e => hx b ob ne e

theorem itOk_tup {A : Around} (hh : A.handled = none) {I a : Addr} {items : List AV} : ItOk P D A I items (fun σ => σ.hp a = some (.tup items)) (fun i o => o.cls = .type "tuple_iterator" ∧ o.data = .fields #[.ref a, .int i 0]) where
  noCell := fun i o h v hv => by rw [h.2] at hv; cases hv
  self := fun i o s Q E h hI hq => wpAny_pyIter_tupleiter ⟨o, hI, h⟩ hq
  lets := fun i o t u s Q E h hI hq => lets_of hI h.1 (by decide) hq
  next := fun F σ s i o v Q E hA R hg hI ho hv h => by
    obtain ⟨vs, n, e, r, hz⟩ := R.tup hg
    obtain ⟨u, hu, hrep⟩ := r.get i hv
    refine wpAny_pyNext_tuple_item (items := vs.toArray) ⟨o, hI, ho⟩ ⟨_, e, rfl, n, rfl⟩ (by simpa using hu) fun h' hi' hs => ?_
    obtain ⟨o', ho', hc'⟩ := hi'
    exact h u h' s.toks o' hrep (fun b ob ne e => (hs.2 b ne).trans e) ho' hc'
  done := fun F σ s i o Q E hA R hg hI ho hv h => by
    obtain ⟨vs, n, e, r, hz⟩ := R.tup hg
    have hlen := r.length
    have : vs[i]? = none := by rw [List.getElem?_eq_none_iff] at hv ⊢; (first | lia | omega)
    exact wpAny_pyNext_tuple_end (items := vs.toArray) hh ⟨o, hI, ho⟩ ⟨_, e, rfl, n, rfl⟩ (by simpa using this) fun h' hx => h h' s.toks fun b ob ne e => hx b ob ne e

noncomputable def rangeL (a : Int) (c : Int) (n : Nat) : List Int := (List.range n).map fun (i : Nat) => a + (i : Int) * c
theorem itOk_range {A : Around} (hh : A.handled = none) {I : Addr} {a c : Int} {n : Nat} : ItOk P D A I (intsA (rangeL a c n)) (fun _ => True) (fun i o => i ≤ n ∧ o = { cls := .type "range_iterator", dict := none, data := .fields #[rawInt (a + (i : Int) * c), rawInt ((n : Int) - i), rawInt c], slots := #[] }) where
  noCell := fun i o h v hv => by rw [h.2] at hv; cases hv
  self := fun i o s Q E h hI hq => by rw [h.2] at hI; exact wpAny_pyIter_rangeiter hI hq
  lets := fun i o t u s Q E h hI hq => lets_of (n := "range_iterator") hI (by rw [h.2]) (by decide) hq
  next := fun F σ s i o v Q E hA R hg hI ho hv h => by
    have hlt : i < n := by
      have := (List.getElem?_eq_some_iff.mp hv).1
      simpa [rangeL] using this
    have hv' : v = .int (a + (i : Int) * c) := by
      have : (intsA (rangeL a c n))[i]? = some (.int (a + (i : Int) * c)) := by simp [rangeL, hlt]
      rw [hv] at this; exact Option.some.inj this
    subst hv'
    rw [ho.2] at hI
    refine wpAny_pyNext_range_item hI (by (first | lia | omega)) fun h' hi' hs => ?_
    refine h _ h' (s.toks + 1) _ ⟨_, rfl⟩ (fun b ob ne e => (hs.2 b ne).trans e) hi' ⟨by (first | lia | omega), ?_⟩
    have e1 : a + (i : Int) * c + c = a + ((i + 1 : Nat) : Int) * c := by rw [Int.natCast_add, Int.add_mul]; (first | lia | omega)
    have e2 : (n : Int) - i - 1 = (n : Int) - ((i + 1 : Nat) : Int) := by (first | lia | omega)
    rw [e1, e2]
  done := fun F σ s i o Q E hA R hg hI ho hv h => by
    have hle : n ≤ i := by
      have := List.getElem?_eq_none_iff.mp hv
      simpa [rangeL] using this
    rw [ho.2] at hI
    exact wpAny_pyNext_range_end hh hI (by (first | lia | omega)) fun h' hx => h h' s.toks fun b ob ne e => hx b ob ne e

theorem dictEs_get : ∀ {es : List (Int × AV)} {kvs : List (Int × Value)} (_ : dictEs es kvs) (i : Nat) {k : Int} {v : AV}, es[i]? = some (k, v) → ∃ u, kvs[i]? = some (k, u) ∧ v.rep u
  | [], [], _, _, _, _, h => by simp at h
  | e :: es, x :: kvs, ⟨h1, h2⟩, 0, k, v, h => by
    simp only [List.map_cons, List.cons.injEq] at h1
    simp at h
    subst h
    exact ⟨x.2, by rw [List.getElem?_cons_zero]; exact congrArg some (Prod.ext h1.1 rfl), h2.1⟩
  | e :: es, x :: kvs, ⟨h1, h2⟩, i + 1, k, v, h => by
    simp only [List.map_cons, List.cons.injEq] at h1
    simpa using dictEs_get ⟨h1.2, h2.2⟩ i (by simpa using h)
  | [], _ :: _, ⟨h1, _⟩, _, _, _, _ => by simp at h1
  | _ :: _, [], ⟨h1, _⟩, _, _, _, _ => by simp at h1

theorem itOk_keys {A : Around} (hh : A.handled = none) {I a : Addr} {es : List (Int × AV)} {ep : Nat} : ItOk P D A I (intsA (es.map (·.1))) (fun σ => σ.hp a = some (.dict es ep)) (fun i o => o.cls = .type "dict_keyiterator" ∧ o.data = .fields #[.ref a, .int i 0, .int es.length 0, .int ep 0]) where
  noCell := fun i o h v hv => by rw [h.2] at hv; cases hv
  self := fun i o s Q E h hI hq => wpAny_pyIter_keyiter ⟨o, hI, h⟩ hq
  lets := fun i o t u s Q E h hI hq => lets_of hI h.1 (by decide) hq
  next := fun F σ s i o v Q E hA R hg hI ho hv h => by
    obtain ⟨kvs, hd, hes, _⟩ := (R.hp a _ hg).1
    have hl := dictEs_len hes
    obtain ⟨kv, hkv, rfl⟩ : ∃ kv, es[i]? = some kv ∧ v = .int kv.1 := by
      rw [List.getElem?_map, List.getElem?_map] at hv
      cases q : es[i]? with
      | none => rw [q] at hv; cases hv
      | some kv => rw [q] at hv; exact ⟨kv, rfl, (Option.some.inj hv).symm⟩
    obtain ⟨u, hu, hrep⟩ := dictEs_get hes i hkv
    refine wpAny_pyNext_dict_item (knd := intKind P.prog P.w) (ep := ep) ⟨o, hI, ho.1, by rw [hl]; exact ho.2⟩ hd hu fun key h' hkey hi' hs => ?_
    obtain ⟨t, rfl⟩ := Value.isInt_shape hkey
    obtain ⟨o', ho', hc', hd'⟩ := hi'
    exact h _ h' s.toks o' ⟨t, rfl⟩ (fun b ob ne e => (hs.2 b ne).trans e) ho' ⟨hc', by rw [← hl]; exact hd'⟩
  done := fun F σ s i o Q E hA R hg hI ho hv h => by
    obtain ⟨kvs, hd, hes, _⟩ := (R.hp a _ hg).1
    have hl := dictEs_len hes
    have : kvs[i]? = none := by
      rw [List.getElem?_eq_none_iff] at hv ⊢
      simp at hv; (first | lia | omega)
    exact wpAny_pyNext_dict_end (knd := intKind P.prog P.w) (ep := ep) hh ⟨o, hI, ho.1, by rw [hl]; exact ho.2⟩ hd this fun h' hx => h h' s.toks fun b ob ne e => hx b ob ne e
theorem itOk_vals {A : Around} (hh : A.handled = none) {I a : Addr} {es : List (Int × AV)} {ep : Nat} : ItOk P D A I (es.map (·.2)) (fun σ => σ.hp a = some (.dict es ep)) (fun i o => o.cls = .type "dict_valueiterator" ∧ o.data = .fields #[.ref a, .int i 0, .int es.length 0, .int ep 0]) where
  noCell := fun i o h v hv => by rw [h.2] at hv; cases hv
  self := fun i o s Q E h hI hq => wpAny_pyIter_valiter ⟨o, hI, h⟩ hq
  lets := fun i o t u s Q E h hI hq => lets_of hI h.1 (by decide) hq
  next := fun F σ s i o v Q E hA R hg hI ho hv h => by
    obtain ⟨kvs, hd, hes, _⟩ := (R.hp a _ hg).1
    have hl := dictEs_len hes
    obtain ⟨kv, hkv, rfl⟩ : ∃ kv, es[i]? = some kv ∧ v = kv.2 := by
      rw [List.getElem?_map] at hv
      cases q : es[i]? with
      | none => rw [q] at hv; cases hv
      | some kv => rw [q] at hv; exact ⟨kv, rfl, (Option.some.inj hv).symm⟩
    obtain ⟨u, hu, hrep⟩ := dictEs_get hes i hkv
    refine wpAny_pyNext_values_item (knd := intKind P.prog P.w) (ep := ep) ⟨o, hI, ho.1, by rw [hl]; exact ho.2⟩ hd hu fun h' hi' hs => ?_
    obtain ⟨o', ho', hc', hd'⟩ := hi'
    exact h _ h' s.toks o' hrep (fun b ob ne e => (hs.2 b ne).trans e) ho' ⟨hc', by rw [← hl]; exact hd'⟩
  done := fun F σ s i o Q E hA R hg hI ho hv h => by
    obtain ⟨kvs, hd, hes, _⟩ := (R.hp a _ hg).1
    have hl := dictEs_len hes
    have : kvs[i]? = none := by
      rw [List.getElem?_eq_none_iff] at hv ⊢
      simp at hv; (first | lia | omega)
    exact wpAny_pyNext_values_end (knd := intKind P.prog P.w) (ep := ep) hh ⟨o, hI, ho.1, by rw [hl]; exact ho.2⟩ hd this fun h' hx => h h' s.toks fun b ob ne e => hx b ob ne e

-- what is gone over
/-- a list, a tuple, a dict's keys -/
noncomputable def iSeq (p : EP) : IP := fun Q E σ => p (fun v σ₁ => ∃ a, v = .ref a ∧ ((∃ l, σ₁.lst a = some l ∧ Q l (fun σ => σ.lst a = some l) σ₁) ∨ (∃ l, σ₁.hp a = some (.tup l) ∧ Q l (fun σ => σ.hp a = some (.tup l)) σ₁) ∨
  (∃ es ep, σ₁.hp a = some (.dict es ep) ∧ Q (intsA (es.map (·.1))) (fun σ => σ.hp a = some (.dict es ep)) σ₁))) E σ
theorem Rel.pushU (R : Rel P D F σ s) (ob : Obj) : Rel P D F σ { s with heap := s.heap.push ob } := R.ext (t := s.toks) fun _ _ e => Heap.get?_push_of_some _ e
theorem iSeq_at (O : FOk P D F) (hc : D.calm = true) {Q : List AV → (St → Prop) → St → Prop} {E : Ex → St → Prop} {v : AV} {u : Value} (hv : v.rep u) (R : Rel P D F σ s)
    (h : ∃ a, v = .ref a ∧ ((∃ l, σ.lst a = some l ∧ Q l (fun σ => σ.lst a = some l) σ) ∨ (∃ l, σ.hp a = some (.tup l) ∧ Q l (fun σ => σ.hp a = some (.tup l)) σ) ∨ (∃ es ep, σ.hp a = some (.dict es ep) ∧ Q (intsA (es.map (·.1))) (fun σ => σ.hp a = some (.dict es ep)) σ))) :
    wpAny (model P.prog P.w) F.A (pyIter u) (RI P D F Q) (RX P D F E) s := by
  obtain ⟨a, rfl, ⟨l, h1, h2⟩ | ⟨l, h1, h2⟩ | ⟨es, ep, h1, h2⟩⟩ := h
  · subst hv
    obtain ⟨vs, e, r, hz⟩ := R.isList h1
    have hne : a ≠ s.heap.objs.size := by obtain ⟨o, ho, _⟩ := e; exact Nat.ne_of_lt (Heap.lt_size ho)
    refine wpAny_pyIter_list e ⟨s.heap.objs.size, l, _, _, σ, _, rfl, R.pushU _, R.fresh (heap_size_none _), Heap.get?_push_size _ rfl, ⟨rfl, rfl⟩, fun _ => itOk_list (O.hh hc), h2⟩
  · subst hv
    obtain ⟨vs, n, e, r, hz⟩ := R.tup h1
    exact wpAny_pyIter_tuple (items := vs.toArray) ⟨_, e, rfl, n, rfl⟩ ⟨s.heap.objs.size, l, _, _, σ, _, rfl, R.pushU _, R.fresh (heap_size_none _), Heap.get?_push_size _ rfl, ⟨rfl, rfl⟩, fun _ => itOk_tup (O.hh hc), h2⟩
  · subst hv
    obtain ⟨kvs, hd, hes, hsys, _⟩ := (R.hp a _ h1).1
    have hl := dictEs_len hes
    exact wpAny_pyIter_dict (knd := intKind P.prog P.w) hsys hd ⟨s.heap.objs.size, _, _, _, σ, _, rfl, R.pushU _, R.fresh (heap_size_none _), Heap.get?_push_size _ rfl, ⟨rfl, by rw [hl]; rfl⟩, fun _ => itOk_keys (O.hh hc), h2⟩
theorem sim_iSeq {e : Expr} {p : EP} (h : SimE P D e p) (hc : D.calm = true := by rfl) : SimI P D e (iSeq p) := by
  intro F O σ s Q E R hp
  refine wpAny_mono (h F O σ s _ E R hp) ?_ fun _ _ x => x
  rintro u s₁ ⟨v, σ₁, hv, R₁, h₁⟩
  exact iSeq_at O hc hv R₁ h₁

/-- range(n), range(a, b), range(a, b, -1) -/
noncomputable def rangeOf : List AV → Option (List Int)
  | [.int n] => if -1000000 ≤ n ∧ n ≤ 1000000 then some (rangeL 0 1 n.toNat) else none
  | [.int a, .int b] => if -1000000 ≤ a ∧ a ≤ 1000000 ∧ b ≤ 1000000 ∧ -1000000 ≤ b then some (rangeL a 1 (b - a).toNat) else none
  | [.int a, .int b, .int c] => if c = -1 ∧ -1000000 ≤ a ∧ a ≤ 1000000 ∧ b ≤ 1000000 ∧ -1000000 ≤ b then some (rangeL a (-1) (a - b).toNat) else none
  | _ => none
noncomputable def iRange (p : LP) : IP := fun Q E σ => p (fun vs σ₁ => ∃ ns, rangeOf vs = some ns ∧ Q (intsA ns) (fun _ => True) σ₁) E σ

theorem range_small {a b : Int} (h1 : -1000000 ≤ a) (h2 : a ≤ 1000000) (h3 : -1000000 ≤ b) (h4 : b ≤ 1000000) : Builtin.Range.rangeSize a b 1 = ((b - a).toNat : Int) ∧ Builtin.Range.small a b 1 = true := by
  have hs : Builtin.Range.rangeSize a b 1 = ((b - a).toNat : Int) := by
    unfold Builtin.Range.rangeSize
    simp only [show (1 : Int) > 0 by decide, if_true]
    split <;> (first | lia | omega)
  refine ⟨hs, ?_⟩
  unfold Builtin.Range.small
  rw [hs]
  simp only [Builtin.Range.rangeFitsLong, Bool.and_eq_true, decide_eq_true_eq, Bool.or_eq_true, show (1 : Int) > 0 by decide, if_true, beq_iff_eq]
  refine ⟨⟨⟨⟨by (first | lia | omega), by (first | lia | omega)⟩, by (first | lia | omega)⟩, by (first | lia | omega)⟩, .inr (by (first | lia | omega))⟩
theorem range_smallD {a b : Int} (h1 : -1000000 ≤ a) (h2 : a ≤ 1000000) (h3 : -1000000 ≤ b) (h4 : b ≤ 1000000) : Builtin.Range.rangeSize a b (-1) = ((a - b).toNat : Int) ∧ Builtin.Range.small a b (-1) = true := by
  have hs : Builtin.Range.rangeSize a b (-1) = ((a - b).toNat : Int) := by
    unfold Builtin.Range.rangeSize
    simp only [show ¬ ((-1 : Int) > 0) by decide, if_false]
    split <;> simp <;> (first | lia | omega)
  refine ⟨hs, ?_⟩
  unfold Builtin.Range.small
  rw [hs]
  simp only [Builtin.Range.rangeFitsLong, Bool.and_eq_true, decide_eq_true_eq, Bool.or_eq_true, show ¬ ((-1 : Int) > 0) by decide, if_false, beq_iff_eq]
  refine ⟨⟨⟨⟨by (first | lia | omega), by (first | lia | omega)⟩, by (first | lia | omega)⟩, by (first | lia | omega)⟩, .inr (by (first | lia | omega))⟩

theorem range_call {F : FX} {σ : St} {s : Shared} (R : Rel P D F σ s) {vs : List AV} {us : List Value} (hr : Reps vs us) {ns : List Int} (h : rangeOf vs = some ns) {Q : Value → Shared → Prop} {E : Value → Shared → Prop}
    (hq : ∀ (h' : Heap) (tk : Nat) (r : Addr) (a b c : Int) (t u v : Tok) (n : Nat), IsRange h' r a b c t u v → (∀ b o, s.heap.get? b = some o → h'.get? b = some o) → Builtin.Range.rangeSize a b c = (n : Int) → Builtin.Range.small a b c = true → ns = rangeL a c n → Q (.ref r) { s with heap := h', toks := tk }) :
    wpAny (model P.prog P.w) F.A (call (.type "range") us) Q E s := by
  obtain ⟨m, hF, hm⟩ := R.fr
  unfold rangeOf at h
  split at h
  · obtain ⟨u, rfl, t, hu⟩ := hr.one
    subst hu
    split at h
    · rename_i n hn
      obtain ⟨q1, q2⟩ := range_small (a := 0) (b := n) (by (first | lia | omega)) (by (first | lia | omega)) (by (first | lia | omega)) (by (first | lia | omega))
      refine range1_rows (news := allBut F.L s.heap) hF (news_all _ _) fun h' tk t₁ u₁ v₁ hi F' N' hk => ?_
      exact hq h' tk _ 0 n 1 t₁ u₁ v₁ n.toNat hi hk (by rw [q1]; simp) q2 (Option.some.inj h).symm
    · cases h
  · obtain ⟨u, v, rfl, ⟨t, hu⟩, t', hv⟩ := hr.two
    subst hu; subst hv
    split at h
    · rename_i a b hn
      obtain ⟨q1, q2⟩ := range_small (a := a) (b := b) (by (first | lia | omega)) (by (first | lia | omega)) (by (first | lia | omega)) (by (first | lia | omega))
      exact range2_rows (news := allBut F.L s.heap) hF (news_all _ _) fun h' tk t₁ u₁ v₁ hi F' N' hk => hq h' tk _ a b 1 t₁ u₁ v₁ _ hi hk q1 q2 (Option.some.inj h).symm
    · cases h
  · obtain ⟨u, us, rfl, ⟨t, hu⟩, hr⟩ := hr.cons_inv
    obtain ⟨v, w, rfl, ⟨t', hv⟩, t'', hw⟩ := hr.two
    subst hu; subst hv; subst hw
    split at h
    · rename_i a b c _ hn
      obtain ⟨rfl, hn⟩ := hn
      obtain ⟨q1, q2⟩ := range_smallD (a := a) (b := b) (by (first | lia | omega)) (by (first | lia | omega)) (by (first | lia | omega)) (by (first | lia | omega))
      exact range3_rows (news := allBut F.L s.heap) hF (news_all _ _) (by decide) (fun h' tk t₁ u₁ v₁ hi F' N' hk => hq h' tk _ a b (-1) t₁ u₁ v₁ _ hi hk q1 q2 (Option.some.inj h).symm) (Or.inl (PyProof.noPylong_small (by (first | lia | omega))))
    · cases h
  · cases h

theorem sim_iRange {x : Str} {np pos : Pos} {e : Expr} {es : List Expr} {p : LP} (hx : x ∈ D.globs) (hf : freeName P x) (hv : bootBuiltins x = some (.type "range")) (ha : SimL P D (e :: es) p) (hc : D.calm = true := by rfl)
    (he : ∀ env, starEach (e :: es) env = (false, eval e env) :: starEach es env := by intro _; rfl) (hs : ∀ env, (backTo pos (starEach es env)).any (·.1) = false := by intro _; rfl) (hd : (x == ("__debug__" : Str)) = false := by decide) :
    SimI P D (.Call (.Name x np) (e :: es) [] pos) (iRange p) := by
  intro F O σ s Q E R hp
  refine wpAny_Call_ofName (glob_bi O R hx hf hv ?_ hd)
  refine PyProof.Rows.callWith_type1 (wpAny_mono (ha F O pos σ s _ E R hp) ?_ fun _ _ x => x) (he _) (hs _)
  rintro us s₁ ⟨vs, σ₁, hr, R₁, ns, h₁, h₂⟩
  refine range_call R₁ hr h₁ fun h' tk r a b c t u v n hi hk hz hsm hns => ?_
  have R₂ : Rel P D F σ₁ { s₁ with heap := h', toks := tk } := R₁.ext hk
  subst hns
  refine wpAny_pyIter_range hi hsm ⟨h'.objs.size, _, _, _, σ₁, _, rfl, R₂.pushU _, R₂.fresh (heap_size_none _), Heap.get?_push_size _ rfl, ⟨Nat.zero_le _, ?_⟩, fun _ => itOk_range (O.hh hc), h₂⟩
  rw [hz]
  simp

end
end
section
noncomputable def emitK (elt : Expr) (acc : Value) (env : Env) : Sem Unit := do let _ ← call (.builtin "list.append") [acc, ← eval elt env]
noncomputable def turnOf (e : Expr) (d : Nat) (target iter : Expr) (ifs : List Expr) (K : Sem Fin → Sem Fin) (it acc : Value) (env : Env) : Sem Fin := do
  standAt iter.pos
  match ← pyNext it with
  | none => pure (.done .next)
  | some v =>
    letOwnedTupleGo target it v
    assign target env v
    let mut ok := true
    for c in ifs do
      if ok then ok ← isTrue c env (eval c env)
    if ok then K (again (.compLoop e d it acc env)) else again (.compLoop e d it acc env)
noncomputable def emitC (elt : Expr) (acc : Value) (env : Env) (k : Sem Fin) : Sem Fin := emitK elt acc env >>= fun _ => k
noncomputable def nextC (e : Expr) (i2 : Expr) (acc : Value) (env : Env) (k : Sem Fin) : Sem Fin := do
  let x ← eval i2 env
  standAt i2.pos
  let x ← foldedSetIterable i2 env x
  let _ ← runOwn (.compStart e 1 (← holding [x] (pyIter x)) acc env) env
  k
noncomputable def nextK (e : Expr) (i2 : Expr) (acc : Value) (env : Env) : Sem Unit := do
  let x ← eval i2 env
  standAt i2.pos
  let x ← foldedSetIterable i2 env x
  let _ ← runOwn (.compStart e 1 (← holding [x] (pyIter x)) acc env) env

section
variable {elt t i t2 i2 : Expr} {fs fs2 : List Expr} {scope : Scope} {pos : Pos}
theorem turn_one (it acc : Value) (env : Env) : compTurn (.ListComp elt [⟨t, i, fs, 0⟩] scope pos) 0 it acc env = turnOf (.ListComp elt [⟨t, i, fs, 0⟩] scope pos) 0 t i fs (emitC elt acc env) it acc env := rfl
end

section
variable {P : PC} {D : FD} {F : FX} {σ : St} {s : Shared}

structure AccAt (P : PC) (D : FD) (F : FX) (σ : St) (s : Shared) (a : Addr) (l : List AV) : Prop where
  unt : Unt D F σ a
  obj : (AObj.list l).at P s.heap a

theorem unt_back (O : FOk P D F) {I : Addr} {o' : Obj} (u : Unt D F σ I) (hI : s.heap.get? I = some o') {σ₄ : St} {s₄ : Shared} (R₄ : Rel P D (guardF F s.heap I) σ₄ s₄) : Unt D F σ₄ I := by
  refine ⟨u.1, ?_⟩
  cases q : σ₄.hp I with
  | none => rfl
  | some oo =>
    obtain ⟨_, y, z⟩ := R₄.hp I oo q
    exfalso
    cases hfz : oo.frozen with
    | false => have := (z hfz).1; rw [show (guardF F s.heap I).g.get? I = some o' from only_get hI (by simp)] at this; cases this
    | true =>
      have hy := y hfz
      cases q2 : F.kb.get? I with
      | none => rw [show (guardF F s.heap I).kb.get? I = F.kb.get? I from rfl, q2] at hy; cases hy
      | some ob => have := O.kbg I ob q2; rw [u.1.g] at this; cases this
theorem unt_out (R : Rel P D F σ s) {I b : Addr} {σ' : St} (u : Unt D (guardF F s.heap I) σ' b) : Unt D F σ' b := by
  refine ⟨⟨u.1.L, ?_, u.1.outs, u.1.cells⟩, u.2⟩
  cases q : F.g.get? b with
  | none => rfl
  | some o =>
    have := only_get (p := fun b => (F.g.get? b).isSome || b == I) (R.keep b o q) (by simp [q])
    have h2 := u.1.g
    rw [show (only s.heap _).get? b = none from h2] at this; cases this
theorem unt_in {I b : Addr} {h : Heap} (u : Unt D F σ b) (ne : b ≠ I) : Unt D (guardF F h I) σ b := ⟨⟨u.1.L, prot_none u.1.g ne, u.1.outs, u.1.cells⟩, u.2⟩
noncomputable abbrev CP := (List AV → St → Prop) → List AV → St → Prop
noncomputable def noX : Ex → St → Prop := fun _ _ => False
noncomputable def cEmit (p : EP) : CP := fun Q acc σ => p (fun v σ' => acc.length < 1000000 ∧ Q (acc ++ [v]) σ') noX σ
noncomputable def cTest : Option TP → CP → CP
  | none, c => c
  | some t, c => fun Q acc σ => t (fun b σ' => if b = true then c Q acc σ' else Q acc σ') noX σ
noncomputable def cLoop (items : List AV) (guard : St → Prop) (tgt : AV → SP) (c : CP) : CP := fun Q acc σ => ∃ J : Nat → List AV → St → Prop, J 0 acc σ ∧ ∀ i acc' σ', J i acc' σ' → guard σ' ∧ (match items[i]? with
  | none => Q acc' σ'
  | some v => tgt v (fun _ σ₂ => c (J (i + 1)) acc' σ₂) noX σ')
noncomputable def cFor (src : IP) (tgt : AV → SP) (c : CP) : CP := fun Q acc σ => src (fun items guard σ₁ => cLoop items guard tgt c Q acc σ₁) noX σ

noncomputable def SimTs (P : PC) (D : FD) : List Expr → Option TP → Prop
  | [], none => True
  | [c], some t => SimT P D c t
  | _, _ => False
noncomputable def SimK (P : PC) (D : FD) (K : Value → Env → Sem Unit) (c : CP) : Prop := ∀ F, FOk P D F → ∀ σ s a l Q, Rel P D F σ s → AccAt P D F σ s a l → c Q l σ →
  wpAny (model P.prog P.w) F.A (K (.ref a) F.env) (fun _ s' => ∃ l' σ', Rel P D F σ' s' ∧ AccAt P D F σ' s' a l' ∧ Q l' σ') (fun _ _ => False) s

theorem noX_elim {e : Value} (h : RX P D F noX e s) : False := by obtain ⟨_, _, _, h⟩ := h; exact h

/-- the accumulator over a piece of work that does not see it -/
theorem acc_over (O : FOk P D F) (R : Rel P D F σ s) {a : Addr} {l : List AV} (x : AccAt P D F σ s a l) {σ' : St} {s' : Shared} :
    Rel P D (guardF F s.heap a) σ' s' → Rel P D F σ' s' ∧ AccAt P D F σ' s' a l := by
  intro R'
  obtain ⟨ob, e⟩ := AObj.at_some x.obj
  have nc : ∀ v, ob.data ≠ .cell v := by
    obtain ⟨vs, n, e', _⟩ := x.obj
    rw [e] at e'; cases e'
    intro v hv; cases hv
  obtain ⟨R₁, e₁⟩ := R.unprot e nc R'
  exact ⟨R₁, unt_back O x.unt e R', AObj.at_of x.obj fun o' e' => by rw [e] at e'; cases e'; exact e₁⟩

theorem simK_emit {elt : Expr} {p : EP} (h : SimE P D elt p) : SimK P D (emitK elt) (cEmit p) := by
  intro F O σ s a l Q R x hp
  unfold emitK
  have O' := O.prot R x.unt
  refine wpAny_bind (wpAny_mono (h _ O' σ s _ noX (R.prot x.unt) hp) ?_ fun _ _ z => (noX_elim z).elim)
  rintro u s₁ ⟨v, σ₁, hv, R₁, hlt, h₁⟩
  obtain ⟨R₂, x₂⟩ := acc_over O R x R₁
  obtain ⟨xs, n, e, r, hz⟩ := x₂.obj
  have hl := r.length
  refine wpAny_bind (wpAny_list_append_plain (items := xs.toArray) ⟨n, e⟩ (fun h' hp' hs' => ?_) (by rw [List.size_toArray, sizeLine_eq]; omega))
  obtain ⟨n', e'⟩ := hp'
  refine wpAny_pure ⟨l ++ [v], σ₁, R₂.change (t := s₁.toks) (fun b => b = a) (fun b eb => eb ▸ x₂.unt.1) (fun b ob ne eb => (hs'.2 b ne).trans eb) (fun b ob eb => .inl ⟨eb, fun q => by rw [q, x₂.unt.2] at eb; cases eb⟩), ⟨x₂.unt, ?_⟩, h₁⟩
  exact ⟨xs ++ [u], n', e'.trans (by simp [W.listOf]), r.append ⟨hv, trivial⟩, by rw [List.length_append]; simp; omega⟩

theorem loop_sim {elt : Expr} {gens : List Comprehension} {scope : Scope} {pos : Pos} {d : Nat} {target iter : Expr} {ifs : List Expr} {K : Value → Env → Sem Unit} {K' : Value → Env → Sem Fin → Sem Fin} {tgt : AV → SP} {ts : Option TP} {c : CP}
    (hT : ∀ it acc env, compTurn (.ListComp elt gens scope pos) d it acc env = turnOf (.ListComp elt gens scope pos) d target iter ifs (K' acc env) it acc env)
    (hKK : ∀ acc env k A (Q : Fin → Shared → Prop) E s, wpAny (model P.prog P.w) A (K acc env) (fun _ s' => wpAny (model P.prog P.w) A k Q E s') (fun _ _ => False) s → wpAny (model P.prog P.w) A (K' acc env k) Q E s) (ht : SimA P D target tgt) (hts : SimTs P D ifs ts) (hK : SimK P D K c)
    (O : FOk P D F) {I : Addr} {items : List AV} {guard : St → Prop} {Ob : Nat → Obj → Prop} {o : Obj} {a : Addr} {l : List AV} {Q : List AV → St → Prop} (W : ItOk P D F.A I items guard Ob) (R : Rel P D F σ s) (uI : Unt D F σ I)
    (hI : s.heap.get? I = some o) (ho : Ob 0 o) (hacc : AccAt P D F σ s a l) (hne : a ≠ I) (h : cLoop items guard tgt (cTest ts c) Q l σ) :
    codeAny (model P.prog P.w) F.A (.compLoop (.ListComp elt gens scope pos) d (.ref I) (.ref a) F.env) (fun r s' => r = .ok .next ∧ ∃ l' σ', Rel P D F σ' s' ∧ AccAt P D F σ' s' a l' ∧ Q l' σ') s := by
  obtain ⟨J, hJ0, hJ⟩ := h
  refine codeAny_loop rfl (fun n s' => ∃ i l' σ' o, n = items.length - i ∧ i ≤ items.length ∧ Rel P D F σ' s' ∧ Unt D F σ' I ∧ s'.heap.get? I = some o ∧ Ob i o ∧ AccAt P D F σ' s' a l' ∧ J i l' σ') ?_ _ ⟨0, l, σ, o, rfl, Nat.zero_le _, R, uI, hI, ho, hacc, hJ0⟩
  rintro n s' ⟨i, l', σ', o', hn, hle, R', uI', hI', ho', hacc', hJi⟩
  show wpAny _ F.A ((compTurn (.ListComp elt gens scope pos) d (.ref I) (.ref a) F.env).onRaise (fun x => do noteFrame x F.env; theTreesLotGoes x)) _ _ s'
  refine wpAny_noted ?_
  rw [hT]
  unfold turnOf
  obtain ⟨hg, hm⟩ := hJ i l' σ' hJi
  have keepAcc : ∀ {h' : Heap} {tk : Nat}, (∀ b ob, b ≠ I → s'.heap.get? b = some ob → h'.get? b = some ob) → AccAt P D F σ' { s' with heap := h', toks := tk } a l' := fun hk => ⟨hacc'.unt, AObj.at_of hacc'.obj fun ob e => hk a ob hne e⟩
  refine wpAny_bind (wpAny_standAt (wpAny_bind ?_))
  cases hv : items[i]? with
  | none =>
    rw [hv] at hm
    exact W.done F σ' s' i o' _ _ rfl R' hg hI' ho' hv fun h' tk hk => wpAny_pure ⟨rfl, l', σ', R'.skipI uI' hk, keepAcc hk, hm⟩
  | some v =>
    rw [hv] at hm
    refine W.next F σ' s' i o' v _ _ rfl R' hg hI' ho' hv fun u h' tk o'' hu hk hI'' ho'' => ?_
    have R'' := R'.skipI (t := tk) uI' hk
    have acc'' := keepAcc (tk := tk) hk
    have nc := W.noCell _ _ ho''
    refine wpAny_bind (W.lets (i + 1) o'' target u _ _ _ ho'' hI'' ?_)
    have O1 := O.prot R'' uI'
    have R1 := R''.prot uI'
    have acc1 : AccAt P D (guardF F h' I) σ' { s' with heap := h', toks := tk } a l' := ⟨unt_in acc''.unt hne, acc''.obj⟩
    have O2 := O1.prot R1 acc1.unt
    have R2 := R1.prot acc1.unt
    refine wpAny_bind (wpAny_mono (ht _ O2 v u hu σ' _ _ noX R2 hm) ?_ fun _ _ z => (noX_elim z).elim)
    rintro _ s₃ ⟨σ₃, R₃, h₃⟩
    have hlt : i < items.length := by obtain ⟨h, _⟩ := List.getElem?_eq_some_iff.mp hv; exact h
    -- behind the tests
    have fin : ∀ (l₄ : List AV) (σ₄ : St) (s₄ : Shared), Rel P D (guardF F h' I) σ₄ s₄ → AccAt P D (guardF F h' I) σ₄ s₄ a l₄ → J (i + 1) l₄ σ₄ →
        ∃ m, m < n ∧ ∃ i l' σ' o, m = items.length - i ∧ i ≤ items.length ∧ Rel P D F σ' s₄ ∧ Unt D F σ' I ∧ s₄.heap.get? I = some o ∧ Ob i o ∧ AccAt P D F σ' s₄ a l' ∧ J i l' σ' := by
      intro l₄ σ₄ s₄ R₄ x₄ hj
      obtain ⟨R₅, hI₅⟩ := R''.unprot hI'' nc R₄
      exact ⟨items.length - (i + 1), by omega, i + 1, l₄, σ₄, o'', rfl, by omega, R₅, unt_back (s := { s' with heap := h', toks := tk }) O uI' hI'' R₄, hI₅, ho'', ⟨unt_out R'' x₄.unt, x₄.obj⟩, hj⟩
    have body : ∀ (σ₄ : St) (s₄ : Shared), Rel P D (guardF (guardF F h' I) h' a) σ₄ s₄ → c (J (i + 1)) l' σ₄ →
        wpAny (model P.prog P.w) F.A (K (.ref a) F.env) (fun _ s₅ => ∃ m, m < n ∧ ∃ i l' σ' o, m = items.length - i ∧ i ≤ items.length ∧ Rel P D F σ' s₅ ∧ Unt D F σ' I ∧ s₅.heap.get? I = some o ∧ Ob i o ∧ AccAt P D F σ' s₅ a l' ∧ J i l' σ') (fun _ _ => False) s₄ := by
      intro σ₄ s₄ R₄ h₄
      obtain ⟨R₅, x₅⟩ := acc_over O1 R1 acc1 R₄
      refine wpAny_mono (hK _ O1 σ₄ s₄ a l' _ R₅ x₅ h₄) ?_ fun _ _ z => z
      rintro _ s₅ ⟨l₆, σ₆, R₆, x₆, h₆⟩
      exact fin l₆ σ₆ s₅ R₆ x₆ h₆
    have goes : ∀ (ok : Bool) (σ₄ : St) (s₄ : Shared), Rel P D (guardF (guardF F h' I) h' a) σ₄ s₄ → (if ok = true then c (J (i + 1)) l' σ₄ else J (i + 1) l' σ₄) → ∀ (E : Value → Shared → Prop),
        wpAny (model P.prog P.w) F.A (if ok = true then K' (.ref a) F.env (again (.compLoop (.ListComp elt gens scope pos) d (.ref I) (.ref a) F.env)) else again (.compLoop (.ListComp elt gens scope pos) d (.ref I) (.ref a) F.env))
          (fun fin s' => match fin with | .done f => (fun r s' => r = .ok .next ∧ ∃ l' σ', Rel P D F σ' s' ∧ AccAt P D F σ' s' a l' ∧ Q l' σ') (.ok f : Result) s' | .again c' => c' = .compLoop (.ListComp elt gens scope pos) d (.ref I) (.ref a) F.env ∧ ∃ m, m < n ∧ ∃ i l' σ' o, m = items.length - i ∧ i ≤ items.length ∧ Rel P D F σ' s' ∧ Unt D F σ' I ∧ s'.heap.get? I = some o ∧ Ob i o ∧ AccAt P D F σ' s' a l' ∧ J i l' σ') E s₄ := by
      intro ok σ₄ s₄ R₄ h₄ E
      cases ok with
      | true =>
        rw [if_pos rfl] at h₄ ⊢
        exact hKK _ _ _ _ _ _ _ (wpAny_mono (body σ₄ s₄ R₄ h₄) (fun _ s₅ h₅ => wpAny_pure ⟨rfl, h₅⟩) fun _ _ z => z)
      | false =>
        rw [if_neg (by decide)] at h₄ ⊢
        obtain ⟨R₅, x₅⟩ := acc_over O1 R1 acc1 R₄
        exact wpAny_pure ⟨rfl, fin l' σ₄ s₄ R₅ x₅ h₄⟩
    match ifs, ts, hts, h₃ with
    | [], none, _, h₃ => exact wpAny_bind (wpAny_tests_nil (goes true σ₃ s₃ R₃ (by rw [if_pos rfl]; exact h₃) _))
    | [t], some pt, hts, h₃ =>
      refine wpAny_bind (wpAny_tests_one (wpAny_mono (hts _ O2 σ₃ s₃ _ noX R₃ h₃) ?_ fun _ _ z => (noX_elim z).elim))
      rintro b s₄ ⟨σ₄, R₄, h₄⟩
      exact goes b σ₄ s₄ R₄ h₄ _
end
end
section
section
variable {P : PC} {D : FD} {F : FX} {σ : St} {s : Shared}

-- the frame of a comprehension
noncomputable def clOf (env : Env) : List (Str × NameKind) → List (Str × Addr) → List (Str × Addr)
  | [], acc => acc
  | (n, k) :: r, acc => clOf env r (if k == .free then (n, (env.cells.lookup n).getD 0) :: acc else acc)
theorem closureFor_eq {env : Env} {scope : Scope} (h : ∀ x, (x, NameKind.free) ∈ scope.names → ∃ c, env.cells.lookup x = some c) : closureFor scope env = pure (clOf env scope.names []) := by
  unfold closureFor
  have main : ∀ (names : List (Str × NameKind)) (acc : List (Str × Addr)), (∀ x, (x, NameKind.free) ∈ names → ∃ c, env.cells.lookup x = some c) →
      (forIn names acc fun (x : Str × NameKind) (r : List (Str × Addr)) => if x.2 == .free then (do let c ← cellOf env x.1; pure (ForInStep.yield ((x.1, c) :: r))) else pure (ForInStep.yield r)) = (pure (clOf env names acc) : Sem _) := by
    intro names
    induction names with
    | nil => intro acc _; rfl
    | cons y r ih =>
      intro acc hy
      obtain ⟨n, k⟩ := y
      rw [List.forIn_cons]
      cases hk : k == NameKind.free with
      | true =>
        have := eq_of_beq hk; subst this
        obtain ⟨c, hc⟩ := hy n (List.mem_cons_self ..)
        have : cellOf env n = pure c := by unfold cellOf; rw [hc]
        simp only [beq_self_eq_true, if_true, this, clOf, hc, Option.getD_some]
        exact ih _ fun x hx => hy x (List.mem_cons_of_mem _ hx)
      | false =>
        simp only [hk, clOf]
        exact ih _ fun x hx => hy x (List.mem_cons_of_mem _ hx)
  refine Eq.trans (congrArg (fun m : Sem (List (Str × Addr)) => m >>= fun r => pure r) (main scope.names [] h)) ?_
  rfl

theorem clOf_lookup {env : Env} {x : Str} : ∀ (names : List (Str × NameKind)) (acc : List (Str × Addr)), (∀ c, acc.lookup x = some c → env.cells.lookup x = some c) → (∃ c, env.cells.lookup x = some c) → ((x, NameKind.free) ∈ names ∨ (acc.lookup x).isSome = true) →
    (clOf env names acc).lookup x = env.cells.lookup x
  | [], acc, h1, _, h3 => by
    rcases h3 with h | h
    · cases h
    · obtain ⟨c, hc⟩ := Option.isSome_iff_exists.mp h
      show acc.lookup x = _
      rw [hc, h1 c hc]
  | (n, k) :: r, acc, h1, ⟨c, hc⟩, h3 => by
    show (clOf env r _).lookup x = _
    by_cases hk : k = .free
    · subst hk
      refine clOf_lookup r _ ?_ ⟨c, hc⟩ ?_
      · intro d hd
        simp only [beq_self_eq_true, if_true, List.lookup_cons] at hd
        split at hd
        · rename_i e; rw [← eq_of_beq e, hc] at hd; cases hd; exact hc
        · exact h1 d hd
      · rcases h3 with h | h
        · rcases List.mem_cons.mp h with e | e
          · cases e; right; simp [List.lookup_cons]
          · exact .inl e
        · right
          simp only [beq_self_eq_true, if_true, List.lookup_cons]
          split
          · rfl
          · exact h
    · rw [show (k == NameKind.free) = false from by simpa using hk]
      refine clOf_lookup r acc h1 ⟨c, hc⟩ ?_
      rcases h3 with h | h
      · rcases List.mem_cons.mp h with e | e
        · cases e; exact absurd rfl hk
        · exact .inl e
      · exact .inr h
theorem cellsFrom_append : ∀ (names : List (Str × NameKind)) (n : Nat) (acc : List (Str × Addr)), cellsFrom n names acc = cellsFrom n names [] ++ acc
  | [], _, _ => rfl
  | (x, k) :: r, n, acc => by
    unfold cellsFrom
    split
    · rw [cellsFrom_append r (n + 1) ((x, n) :: acc), cellsFrom_append r (n + 1) [(x, n)], List.append_assoc]; rfl
    · exact cellsFrom_append r n acc
theorem lookup_append_some {x : Str} {c : Addr} : ∀ {l l' : List (Str × Addr)}, l.lookup x = some c → (l ++ l').lookup x = some c
  | [], _, h => by cases h
  | (y, d) :: l, l', h => by
    rw [List.cons_append, List.lookup_cons] at *
    split
    · rename_i e; simpa [e] using h
    · rename_i e; exact lookup_append_some (by simpa [e] using h)
theorem lookup_append_none {x : Str} : ∀ {l l' : List (Str × Addr)}, l.lookup x = none → (l ++ l').lookup x = l'.lookup x
  | [], _, _ => rfl
  | (y, d) :: l, l', h => by
    rw [List.lookup_cons] at h
    rw [List.cons_append, List.lookup_cons]
    split
    · rename_i e; simp [e] at h
    · rename_i e; exact lookup_append_none (by simpa [e] using h)
theorem cellsFrom_names {x : Str} {c : Addr} : ∀ (names : List (Str × NameKind)) (n : Nat), (x, c) ∈ cellsFrom n names [] → (x, NameKind.cell) ∈ names
  | [], _, h => by cases h
  | (y, k) :: r, n, h => by
    unfold cellsFrom at h
    split at h
    · rename_i e
      rw [cellsFrom_append] at h
      rcases List.mem_append.mp h with h | h
      · exact List.mem_cons_of_mem _ (cellsFrom_names r _ h)
      · have := List.mem_singleton.mp h; cases this; rw [eq_of_beq e]; exact List.mem_cons_self ..
    · exact List.mem_cons_of_mem _ (cellsFrom_names r _ h)

theorem relabel_keep {env : Env} {x : Str} {k : NameKind} (hk : k ≠ .free) : ∀ {names : List (Str × NameKind)}, names.lookup x = some k →
    (names.map fun (n, k) => if (k == NameKind.free && env.scope.kind == .function && env.kindOf n == some .cell) then (n, NameKind.cell) else (n, k)).lookup x = some k
  | [], h => by cases h
  | (n, k') :: r, h => by
    rw [List.lookup_cons] at h
    rw [List.map_cons]
    show List.lookup x ((if (k' == NameKind.free && env.scope.kind == .function && env.kindOf n == some .cell) = true then (n, NameKind.cell) else (n, k')) :: _) = _
    cases hx : x == n with
    | true =>
      rw [hx] at h; cases h
      have : (k == NameKind.free) = false := by simpa using hk
      simp [this, List.lookup_cons, hx]
    | false =>
      rw [hx] at h
      split <;> (rw [List.lookup_cons, hx]; exact relabel_keep hk h)
theorem relabel_free {env : Env} {x : Str} : ∀ {names : List (Str × NameKind)}, names.lookup x = some .free →
    (names.map fun (n, k) => if (k == NameKind.free && env.scope.kind == .function && env.kindOf n == some .cell) then (n, NameKind.cell) else (n, k)).lookup x = some .free ∨
    (names.map fun (n, k) => if (k == NameKind.free && env.scope.kind == .function && env.kindOf n == some .cell) then (n, NameKind.cell) else (n, k)).lookup x = some .cell
  | [], h => by cases h
  | (n, k') :: r, h => by
    rw [List.lookup_cons] at h
    rw [List.map_cons]
    show List.lookup x ((if (k' == NameKind.free && env.scope.kind == .function && env.kindOf n == some .cell) = true then (n, NameKind.cell) else (n, k')) :: _) = _ ∨ List.lookup x ((if (k' == NameKind.free && env.scope.kind == .function && env.kindOf n == some .cell) = true then (n, NameKind.cell) else (n, k')) :: _) = _
    cases hx : x == n with
    | true =>
      rw [hx] at h; cases h
      split
      · right; rw [List.lookup_cons, hx]
      · left; rw [List.lookup_cons, hx]
    | false =>
      rw [hx] at h
      split <;> (rw [List.lookup_cons, hx]; exact relabel_free h)

theorem new_comp_env {A : Around} {E : Value → Shared → Prop} {M : Model} {scope : Scope} {globals : Addr} {cl : List (Str × Addr)} {qual : Str} {env : Env} {Q : Env → Shared → Prop} (hk : scope.kind = .function)
    (hQ : ∀ h', h'.Ns s.heap.objs.size (fun _ => none) → (∀ b o, s.heap.get? b = some o → h'.get? b = some o) → (∀ n c, (n, c) ∈ cellsFrom (s.heap.objs.size + 1) scope.names [] → h'.IsCell c none ∧ s.heap.objs.size < c) →
      (cellsFrom (s.heap.objs.size + 1) scope.names []).Pairwise (fun x y => x.2 ≠ y.2) → h'.get? s.heap.objs.size ≠ none →
      Q (newEnv scope s.heap.objs.size globals (cellsFrom (s.heap.objs.size + 1) scope.names [] ++ cl) qual none .none (some env) builtinsNs) { s with heap := h' }) :
    wpAny M A (newFunctionEnv scope globals cl [] qual none .none (some env)) Q E s := by
  simp only [newFunctionEnv, Option.isSome_some, if_true]
  refine wpAny_bind (wpAny_alloc ?_)
  refine wpAny_bind (wpAny_layCells _ (fun name kind cells => by cases hkc : kind == NameKind.cell <;> simp [hkc]) _ _ _ _ ?_)
  have ok := cellsFrom_ok scope.names (s.heap.push { cls := .type "dict", data := .dict #[] }) (s.heap.objs.size + 1) [] ⟨fun _ _ hm => (nomatch hm), List.Pairwise.nil⟩ (by rw [Heap.size_push]; exact Nat.le_refl _)
  rw [Heap.size_push] at ok
  rw [show ({ s with heap := s.heap.push { cls := .type "dict", data := .dict #[] } } : Shared).heap.objs.size = s.heap.objs.size + 1 from Heap.size_push ..]
  rw [cellsFrom_append]
  refine wpAny_bind (wpAny_pure (wpAny_pure (hQ _ ((Heap.Ns.new s.heap (.type "dict")).keeps (pushCells_keeps _ _)) (fun b o e => pushCells_keeps _ _ b o (Heap.get?_push_of_some _ e)) (fun n c hm => ok.empty n c hm) ok.apart ?_)))
  rw [pushCells_keeps _ _ _ _ (Heap.get?_push_size _ rfl)]
  exact fun h => nomatch h
end
end
section
structure CompOk (D D' : FD) (scope : Scope) (m : List (Option Nat)) : Prop where
  kind : scope.kind = .function
  names : ∀ x ∈ scope.names, x.2 = .local → scope.names.lookup x.1 = some .local
  free : ∀ x, (x, NameKind.free) ∈ scope.names → (x, VK.cell) ∈ D.vars ∨ (x, VK.cap) ∈ D.vars
  loc : ∀ x, (x, VK.loc) ∈ D'.vars → scope.names.lookup x = some .local
  cell : ∀ x, (x, VK.cell) ∈ D'.vars → scope.names.lookup x = some .cell
  cap : ∀ x, (x, VK.cap) ∈ D'.vars → scope.names.lookup x = some .free ∧ (x == ("__classdict__" : Str)) = false ∧ (x, NameKind.cell) ∉ scope.names ∧ (x, NameKind.free) ∈ scope.names
  glob : ∀ x ∈ D'.globs, scope.names.lookup x = some .globalImplicit
  nd : (D'.vars.map (·.1)).Nodup
  map : ∀ (i j : Nat), m[i]? = some (some j) → ∃ x : Str, D'.vars[i]? = some (x, VK.cap) ∧ (D.vars[j]? = some (x, VK.cell) ∨ D.vars[j]? = some (x, VK.cap))
  fn : D'.fn = false
  depth : D'.depth ≤ D.depth
  calm : D'.calm = true → D.calm = true

noncomputable def compOkB (D D' : FD) (scope : Scope) (m : List (Option Nat)) : Bool :=
  decide (scope.kind = .function) && (scope.names.all fun x => x.2 != .local || scope.names.lookup x.1 == some .local) &&
  (scope.names.all fun x => x.2 != .free || D.vars.contains (x.1, .cell) || D.vars.contains (x.1, .cap)) &&
  (D'.vars.all fun x => match x.2 with
    | .loc => scope.names.lookup x.1 == some .local
    | .cell => scope.names.lookup x.1 == some .cell
    | .cap => scope.names.lookup x.1 == some .free && x.1 != ("__classdict__" : Str) && !scope.names.contains (x.1, .cell) && scope.names.contains (x.1, .free)) &&
  (D'.globs.all fun x => scope.names.lookup x == some .globalImplicit) && decide ((D'.vars.map (·.1)).Nodup) &&
  ((List.range m.length).all fun i => match m[i]? with
    | some (some j) => match D'.vars[i]?, D.vars[j]? with
      | some (x, VK.cap), some (y, VK.cell) => x == y
      | some (x, VK.cap), some (y, VK.cap) => x == y
      | _, _ => false
    | _ => true) && !D'.fn && decide (D'.depth ≤ D.depth) && (!D'.calm || D.calm)

theorem CompOk.of {D D' : FD} {scope : Scope} {m : List (Option Nat)} (h : compOkB D D' scope m = true) : CompOk D D' scope m := by
  unfold compOkB at h
  simp only [Bool.and_eq_true, List.all_eq_true, decide_eq_true_eq] at h
  obtain ⟨⟨⟨⟨⟨⟨⟨⟨⟨h1, h2⟩, h3⟩, h4⟩, h5⟩, h6⟩, h7⟩, h8⟩, h9⟩, h10⟩ := h
  refine ⟨h1, fun x hx hl => ?_, fun x hx => ?_, fun x hx => ?_, fun x hx => ?_, fun x hx => ?_, fun x hx => by simpa using h5 x hx, h6, fun i j hij => ?_, by simpa using h8, h9, fun hc => by simpa [hc] using h10⟩
  · have := h2 x hx; rw [hl] at this; simpa using this
  · have := h3 _ hx; simpa using this
  · have := h4 _ hx; simpa using this
  · have := h4 _ hx; simpa using this
  · have := h4 _ hx
    simp only [Bool.and_eq_true, beq_iff_eq, bne_iff_ne, ne_eq, Bool.not_eq_true', List.contains_iff_mem] at this
    obtain ⟨⟨⟨a1, a2⟩, a3⟩, a4⟩ := this
    refine ⟨a1, by simpa using a2, fun hm => ?_, a4⟩
    rw [List.contains_iff_mem.mpr hm] at a3; cases a3
  · have hlt : i < m.length := (List.getElem?_eq_some_iff.mp hij).1
    have := h7 i (List.mem_range.mpr hlt)
    rw [hij] at this
    simp only at this
    split at this
    · rename_i x y e1 e2; rw [eq_of_beq this] at e1; exact ⟨y, e1, .inl e2⟩
    · rename_i x y e1 e2; rw [eq_of_beq this] at e1; exact ⟨y, e1, .inr e2⟩
    · cases this

noncomputable def capLoc (m : List (Option Nat)) (loc : Nat → Option AV) : Nat → Option AV := fun i => match m[i]? with
  | some (some j) => loc j
  | _ => none

section
variable {P : PC} {D D' : FD} {F : FX} {σ : St} {s : Shared}

noncomputable def compG (F : FX) (hp : AH) (X : List Addr) (h : Heap) : Heap := only h fun b => !tracked hp b && !(F.L :: F.outs.map (·.1)).contains b && !X.contains b
theorem compG_get {hp : AH} {h : Heap} {X : List Addr} {b : Addr} {o : Obj} (e : h.get? b = some o) (h1 : tracked hp b = false) (h2 : b ∉ F.L :: F.outs.map (·.1)) (h3 : b ∉ X) : (compG F hp X h).get? b = some o :=
  only_get e (by
    rw [h1]; simp only [Bool.not_false, Bool.true_and, Bool.and_eq_true, Bool.not_eq_true']
    exact ⟨by rw [← Bool.not_eq_true, List.contains_iff_mem]; exact h2, by rw [← Bool.not_eq_true, List.contains_iff_mem]; exact h3⟩)
theorem of_compG {hp : AH} {h : Heap} {X : List Addr} {b : Addr} {o : Obj} (e : (compG F hp X h).get? b = some o) : h.get? b = some o ∧ tracked hp b = false ∧ b ∉ F.L :: F.outs.map (·.1) ∧ b ∉ X := by
  obtain ⟨h1, h2⟩ := of_only e
  simp only [Bool.and_eq_true, Bool.not_eq_true'] at h2
  obtain ⟨⟨a1, a2⟩, a3⟩ := h2
  refine ⟨h1, a1, fun hm => ?_, fun hm => ?_⟩
  · rw [List.contains_iff_mem.mpr hm] at a2; cases a2
  · rw [List.contains_iff_mem.mpr hm] at a3; cases a3
theorem compG_sub (O : FOk P D F) (R : Rel P D F σ s) {X : List Addr} (hX : ∀ b ∈ X, Unt D F σ b) {b : Addr} {o : Obj} (e : F.g.get? b = some o) : (compG F σ.hp X s.heap).get? b = some o := by
  obtain ⟨h1, h2, h3⟩ := of_calleeG (g_sub O R e)
  exact compG_get h1 h2 h3 fun hm => by have := (hX b hm).1.g; rw [e] at this; cases this
noncomputable def compF (F : FX) (hp : AH) (X : List Addr) (h : Heap) (L : Addr) (env : Env) : FX :=
  { A := F.A, kb := F.kb, fenv := F.fenv, outer := F.outer, outs := curOuts F h, g := compG F hp X h, L := L, env := env, os := F.os }

theorem comp_cell_in (O : FOk P D F) (R : Rel P D F σ s) {X : List Addr} (hX : ∀ b ∈ X, Unt D F σ b) {x : Str} {c : Addr} {i : Nat} (hi : D.vars[i]? = some (x, .cell)) (hc : F.env.cells.lookup x = some c) {o : Obj} (e : s.heap.get? c = some o) :
    (compG F σ.hp X s.heap).get? c = some o := by
  obtain ⟨h1, _⟩ := R.cell i x hi c hc
  obtain ⟨_, c', hc', hcL, hcg, hco⟩ := O.cell x (List.mem_of_getElem? hi)
  rw [hc] at hc'; cases hc'
  exact compG_get e (by unfold tracked; rw [h1]) (fun hm => (List.mem_cons.mp hm).elim hcL hco) fun hm => (hX c hm).1.cells x c (List.mem_of_getElem? hi) hc rfl

theorem comp_back {L : Addr} {env : Env} {X : List Addr} {σ₁ : St} {s₁ : Shared} (O : FOk P D F) (R : Rel P D F σ s) (hX : ∀ b ∈ X, Unt D F σ b) (R₁ : Rel P D' (compF F σ.hp X s.heap L env) σ₁ s₁) : Rel P D F ⟨σ.loc, σ₁.hp⟩ s₁ where
  ns := by
    obtain ⟨m, ⟨o, es, ep, e, hd, r⟩, q⟩ := R.ns
    obtain ⟨sl, e'⟩ := R₁.outs (F.L, o) (curOuts_mem.mpr ⟨e, List.mem_cons_self ..⟩)
    exact ⟨m, ⟨_, es, ep, e', hd, r⟩, q⟩
  cell := fun i x hi c hc => by
    obtain ⟨h1, u, ⟨o, e, hd⟩, q⟩ := R.cell i x hi c hc
    obtain ⟨_, c', hc', hcL, hcg, hco⟩ := O.cell x (List.mem_of_getElem? hi)
    rw [hc] at hc'; cases hc'
    have hg := comp_cell_in O R hX hi hc e
    refine ⟨?_, u, ⟨o, R₁.keep c o hg, hd⟩, q⟩
    show σ₁.hp c = none
    cases e2 : σ₁.hp c with
    | none => rfl
    | some ob =>
      exfalso
      obtain ⟨_, y, z⟩ := R₁.hp c ob e2
      cases hf : ob.frozen with
      | false => have := (z hf).1; rw [show (compF F σ.hp X s.heap L env).g.get? c = some o from hg] at this; cases this
      | true =>
        have hy : (F.kb.get? c).isSome = true := y hf
        cases q2 : F.kb.get? c with
        | none => rw [q2] at hy; cases hy
        | some ob => have := O.kbg c ob q2; rw [hcg] at this; cases this
  cap := R.cap
  keep := fun b o e => R₁.keep b o (compG_sub O R hX e)
  outs := fun q hq => by
    obtain ⟨sl, e⟩ := R.outs q hq
    obtain ⟨sl', e'⟩ := R₁.outs (q.1, { q.2 with slots := sl }) (curOuts_mem.mpr ⟨e, List.mem_cons_of_mem _ (List.mem_map.mpr ⟨q, hq, rfl⟩)⟩)
    exact ⟨sl', e'⟩
  hp := fun a o e => by
    obtain ⟨x, y, z⟩ := R₁.hp a o e
    refine ⟨x, y, fun hf => ?_⟩
    obtain ⟨z1, z2, z3⟩ := z hf
    have hno : a ∉ F.L :: F.outs.map (·.1) := fun hm => z3 ((curOuts_keys R a).mpr hm)
    refine ⟨?_, fun q => hno (q ▸ List.mem_cons_self ..), fun hm => hno (List.mem_cons_of_mem _ hm)⟩
    cases q : F.g.get? a with
    | none => rfl
    | some o' => have := compG_sub O R hX q; rw [show (compG F σ.hp X s.heap).get? a = none from z1] at this; cases this
  gens := R₁.gens
  os := R₁.os


theorem comp_unt {L : Addr} {env : Env} {X : List Addr} {σ₁ : St} (O : FOk P D F) (R : Rel P D F σ s) (hX : ∀ b ∈ X, Unt D F σ b) {a : Addr} (u : Unt D' (compF F σ.hp X s.heap L env) σ₁ a) : Unt D F ⟨σ.loc, σ₁.hp⟩ a := by
  have hno : a ∉ F.L :: F.outs.map (·.1) := fun hm => u.1.outs ((curOuts_keys R a).mpr hm)
  refine ⟨⟨fun q => hno (q ▸ List.mem_cons_self ..), ?_, fun hm => hno (List.mem_cons_of_mem _ hm), fun x c hx hc e => ?_⟩, u.2⟩
  · cases q : F.g.get? a with
    | none => rfl
    | some o' => have := compG_sub O R hX q; rw [show (compG F σ.hp X s.heap).get? a = none from u.1.g] at this; cases this
  · obtain ⟨i, hi⟩ := List.mem_iff_getElem?.mp hx
    obtain ⟨h1, w, ⟨o, eo, hd⟩, q⟩ := R.cell i x hi c hc
    have hg := comp_cell_in O R hX hi hc eo
    have := u.1.g
    rw [← e, show (compF F σ.hp X s.heap L env).g.get? c = some o from hg] at this; cases this

theorem comp_frame {scope : Scope} {m : List (Option Nat)} (hC : CompOk D D' scope m) (O : FOk P D F) (R : Rel P D F σ s) {X : List Addr} (hX : ∀ b ∈ X, Unt D F σ b) {h' : Heap} {env : Env}
    (hns : h'.Ns s.heap.objs.size (fun _ => none)) (hk : ∀ b o, s.heap.get? b = some o → h'.get? b = some o) (hcell : ∀ n c, (n, c) ∈ cellsFrom (s.heap.objs.size + 1) scope.names [] → h'.IsCell c none ∧ s.heap.objs.size < c)
    (hap : (cellsFrom (s.heap.objs.size + 1) scope.names []).Pairwise (fun x y => x.2 ≠ y.2))
    (henv : env = { newEnv scope s.heap.objs.size F.env.globals (cellsFrom (s.heap.objs.size + 1) scope.names [] ++ clOf F.env scope.names []) F.env.qual none .none (some F.env) builtinsNs with scope := relabel scope F.env }) :
    FOk P D' (compF F σ.hp X s.heap s.heap.objs.size env) ∧ Rel P D' (compF F σ.hp X s.heap s.heap.objs.size env) ⟨capLoc m σ.loc, σ.hp⟩ { s with heap := h' } := by
  have freeCell : ∀ x, (x, NameKind.free) ∈ scope.names → ∃ c, F.env.cells.lookup x = some c := fun x hx => by
    rcases hC.free x hx with h | h
    · obtain ⟨_, c, hc, _⟩ := O.cell x h; exact ⟨c, hc⟩
    · exact (O.cap x h).2
  have nofr : ∀ a, a ∈ F.L :: F.outs.map (·.1) → a < s.heap.objs.size := fun a ha => by
    obtain ⟨q, hq, rfl⟩ := List.mem_map.mp ((curOuts_keys R a).mpr ha)
    exact Heap.lt_size (curOuts_mem.mp hq).1
  have gLt : ∀ b o, (compG F σ.hp X s.heap).get? b = some o → b < s.heap.objs.size := fun b o e => Heap.lt_size (of_compG e).1
  have gNone : ∀ b, s.heap.objs.size ≤ b → (compG F σ.hp X s.heap).get? b = none := fun b hb => by
    cases q : (compG F σ.hp X s.heap).get? b with
    | none => rfl
    | some o => exact absurd (gLt b o q) (Nat.not_lt.mpr hb)
  have oNone : ∀ b, s.heap.objs.size ≤ b → b ∉ (curOuts F s.heap).map (·.1) := fun b hb hm => absurd (nofr b ((curOuts_keys R b).mp hm)) (Nat.not_lt.mpr hb)
  have hcells : env.cells = cellsFrom (s.heap.objs.size + 1) scope.names [] ++ clOf F.env scope.names [] := by rw [henv]; rfl
  have hsc : env.scope = relabel scope F.env := by rw [henv]
  have kindOf : ∀ x, env.kindOf x = (scope.names.map fun (n, k) => if (k == NameKind.free && F.env.scope.kind == .function && F.env.kindOf n == some .cell) then (n, NameKind.cell) else (n, k)).lookup x := fun x => by rw [henv]; rfl
  have cellAt : ∀ x, (x, VK.cell) ∈ D'.vars → ∃ c, env.cells.lookup x = some c ∧ (x, c) ∈ cellsFrom (s.heap.objs.size + 1) scope.names [] := fun x hx => by
    obtain ⟨c, hc⟩ := Option.isSome_iff_exists.mp (cells_some (x := x) scope.names (s.heap.objs.size + 1) [] (hC.cell x hx))
    exact ⟨c, by rw [hcells]; exact lookup_append_some hc, mem_of_lookup hc⟩
  have capAt : ∀ x, (x, VK.cap) ∈ D'.vars → env.cells.lookup x = F.env.cells.lookup x := fun x hx => by
    obtain ⟨_, _, h3, h4⟩ := hC.cap x hx
    rw [hcells, lookup_append_none, clOf_lookup scope.names [] (fun c hc => by cases hc) (freeCell x h4) (.inl h4)]
    cases q : (cellsFrom (s.heap.objs.size + 1) scope.names []).lookup x with
    | none => rfl
    | some c => exact absurd (cellsFrom_names _ _ (mem_of_lookup q)) h3
  have O' : FOk P D' (compF F σ.hp X s.heap s.heap.objs.size env) := {
    fn := by show env.scope.kind = _; rw [hsc]; exact hC.kind
    locals := by show env.locals = _; rw [henv]; rfl
    globals := by show env.globals = _; rw [henv]; exact O.globals
    builtins := by show env.builtins = _; rw [henv]; exact O.builtins
    loc := fun x hx => by show env.kindOf x = _; rw [kindOf]; exact relabel_keep (by decide) (hC.loc x hx)
    cell := fun x hx => by
      obtain ⟨c, hc, hm⟩ := cellAt x hx
      have hlt := (hcell x c hm).2
      exact ⟨by show env.kindOf x = _; rw [kindOf]; exact relabel_keep (by decide) (hC.cell x hx), c, hc, Nat.ne_of_gt hlt, gNone c (Nat.le_of_lt hlt), oNone c (Nat.le_of_lt hlt)⟩
    cellInj := fun x y c hx hy hcx hcy => by
      obtain ⟨c1, hc1, hm1⟩ := cellAt x hx
      obtain ⟨c2, hc2, hm2⟩ := cellAt y hy
      have e1 : c1 = c := Option.some.inj (hc1.symm.trans hcx)
      have e2 : c2 = c := Option.some.inj (hc2.symm.trans hcy)
      subst e1; rw [e2] at hm2
      exact pairwise_inj hap hm1 hm2
    cap := fun x hx => by
      obtain ⟨h1, h2, h3, h4⟩ := hC.cap x hx
      refine ⟨?_, ?_⟩
      · rcases relabel_free (env := F.env) h1 with h | h
        · exact .inr ⟨by show env.kindOf x = _; rw [kindOf]; exact h, h2⟩
        · exact .inl (by show env.kindOf x = _; rw [kindOf]; exact h)
      · obtain ⟨c, hc⟩ := freeCell x h4
        exact ⟨c, by show env.cells.lookup x = _; rw [capAt x hx]; exact hc⟩
    glob := fun x hx => by show env.kindOf x = _; rw [kindOf]; exact relabel_keep (by decide) (hC.glob x hx)
    nd := hC.nd
    X := O.X
    T := O.T
    kbg := fun b o e => compG_sub O R hX (O.kbg b o e)
    frames := O.frames
    frs := fun e he => by
      obtain ⟨h1, L, h2, h3⟩ := O.frs e he
      have hm : L ∈ F.L :: F.outs.map (·.1) := by
        rcases h3 with rfl | ⟨o, ho⟩
        · exact List.mem_cons_self ..
        · exact List.mem_cons_of_mem _ (List.mem_map.mpr ⟨_, ho, rfl⟩)
      obtain ⟨q, hq, e2⟩ := List.mem_map.mp ((curOuts_keys R L).mpr hm)
      exact ⟨h1, L, h2, .inr ⟨q.2, by rw [← e2]; exact hq⟩⟩
    outsOk := fun q hq => by
      obtain ⟨h1, h2⟩ := curOuts_mem.mp hq
      refine ⟨?_, fun vs hv => ?_, Nat.ne_of_lt (Heap.lt_size h1)⟩
      · show (compG F σ.hp X s.heap).get? q.1 = none
        cases e : (compG F σ.hp X s.heap).get? q.1 with
        | none => rfl
        | some o => exact absurd h2 (of_compG e).2.2.1
      · rcases List.mem_cons.mp h2 with e | hm
        · obtain ⟨m, ⟨o, es, ep, e', hd', _⟩, _⟩ := R.ns
          rw [e, e'] at h1; cases h1
          rw [hd'] at hv; cases hv
        · obtain ⟨q', hq', e⟩ := List.mem_map.mp hm
          obtain ⟨sl, e'⟩ := R.outs q' hq'
          have h1' : s.heap.get? q'.1 = some q.2 := by rw [e]; exact h1
          have e2 : q.2 = { q'.2 with slots := sl } := Option.some.inj (h1'.symm.trans e')
          rw [e2] at hv
          exact (O.outsOk q' hq').2.1 vs hv
    Lg := gNone _ (Nat.le_refl _)
    above := by
      show F.kb.objs.size ≤ s.heap.objs.size
      obtain ⟨m, ⟨o, _, _, e, _⟩, _⟩ := R.ns
      exact Nat.le_trans O.above (Nat.le_of_lt (Heap.lt_size e))
    depth := by
      have h1 := O.depth
      have h2 := hC.depth
      show F.A.depth + 20 * D'.depth ≤ 900
      (first | lia | omega)
    units := by
      have h1 := O.units
      have h2 := hC.depth
      show F.A.units + 100 * D'.depth ≤ 9000
      (first | lia | omega)
    hh := fun h => O.hh (hC.calm h)
    fnOk := fun h => by rw [hC.fn] at h; cases h }
  refine ⟨O', ?_⟩
  have hpN : ∀ b, s.heap.objs.size ≤ b → σ.hp b = none := fun b hb => by
    cases q : σ.hp b with
    | none => rfl
    | some o => obtain ⟨ob, e⟩ := AObj.at_some (R.hp b o q).1; exact absurd (Heap.lt_size e) (Nat.not_lt.mpr hb)
  have capOnly : ∀ i v, capLoc m σ.loc i = some v → ∃ j, m[i]? = some (some j) ∧ σ.loc j = some v := fun i v h => by
    unfold capLoc at h
    split at h
    · rename_i j e; exact ⟨j, e, h⟩
    · cases h
  exact {
    ns := ⟨_, hns, fun i x v hi hv => by
      obtain ⟨j, hj, _⟩ := capOnly i v hv
      obtain ⟨y, hy, _⟩ := hC.map i j hj
      rw [hi] at hy; cases hy⟩
    cell := fun i x hi c hc => by
      obtain ⟨c', hc', hm⟩ := cellAt x (List.mem_of_getElem? hi)
      have e : c' = c := Option.some.inj (hc'.symm.trans hc)
      subst e
      refine ⟨hpN c' (Nat.le_of_lt (hcell x c' hm).2), none, (hcell x c' hm).1, fun v hv => ?_⟩
      obtain ⟨j, hj, _⟩ := capOnly i v hv
      obtain ⟨y, hy, _⟩ := hC.map i j hj
      rw [hi] at hy; cases hy
    cap := fun i x v hi hv => by
      obtain ⟨j, hj, hv'⟩ := capOnly i v hv
      obtain ⟨y, hy, hD⟩ := hC.map i j hj
      rw [hi] at hy; cases hy
      have hmem : (x, VK.cap) ∈ D'.vars := List.mem_of_getElem? hi
      rcases hD with hD | hD
      · obtain ⟨_, c, hc, _⟩ := O.cell x (List.mem_of_getElem? hD)
        obtain ⟨h1, u, ⟨o, e, hd⟩, q⟩ := R.cell j x hD c hc
        obtain ⟨u', rfl, hrep⟩ := q v hv'
        exact ⟨c, u', by show env.cells.lookup x = _; rw [capAt x hmem]; exact hc, ⟨o, comp_cell_in O R hX hD hc e, hd⟩, hrep⟩
      · obtain ⟨c, u, hc, ⟨o, e, hd⟩, hrep⟩ := R.cap j x v hD hv'
        exact ⟨c, u, by show env.cells.lookup x = _; rw [capAt x hmem]; exact hc, ⟨o, compG_sub O R hX e, hd⟩, hrep⟩
    keep := fun b o e => hk b o (of_compG e).1
    outs := fun q hq => ⟨q.2.slots, hk _ _ (curOuts_mem.mp hq).1⟩
    hp := fun a o e => by
      obtain ⟨x, y, z⟩ := R.hp a o e
      refine ⟨AObj.at_of x fun ob eo => hk _ _ eo, y, fun hf => ?_⟩
      obtain ⟨z1, z2, z3⟩ := z hf
      obtain ⟨ob, eo⟩ := AObj.at_some x
      refine ⟨?_, Nat.ne_of_lt (Heap.lt_size eo), fun hm => ?_⟩
      · show (compG F σ.hp X s.heap).get? a = none
        cases q : (compG F σ.hp X s.heap).get? a with
        | none => rfl
        | some o' => have := (of_compG q).2.1; unfold tracked at this; rw [e] at this; simp [hf] at this
      · exact (List.mem_cons.mp ((curOuts_keys R a).mp hm)).elim z2 z3
    gens := R.gens
    os := R.os }
end
end
section
section
variable {P : PC} {D D' : FD} {F : FX} {σ : St} {s : Shared}

/-- what is known behind the loops, back in the frame around -/
structure CompDone (P : PC) (D : FD) (F : FX) (σ₂ : St) (Q : List AV → St → Prop) (acc : Value) (C : Addr) (s' : Shared) : Prop where
  out : ∃ a m' l σ', acc = .ref a ∧ Rel P D F ⟨σ₂.loc, σ'.hp⟩ s' ∧ AccAt P D F ⟨σ₂.loc, σ'.hp⟩ s' a l ∧ Unt D F ⟨σ₂.loc, σ'.hp⟩ C ∧ s'.heap.Ns C m' ∧ C ≠ a ∧ Q l σ'

theorem comp_core {elt : Expr} {t i : Expr} {fs : List Expr} {rest : List Comprehension} {scope : Scope} {pos : Pos} {m : List (Option Nat)} {K : Value → Env → Sem Unit} {K' : Value → Env → Sem Fin → Sem Fin} {tgt : AV → SP} {ts : Option TP} {c : CP}
    (hC : CompOk D D' scope m)
    (hT : ∀ it acc env, compTurn (.ListComp elt (⟨t, i, fs, 0⟩ :: rest) scope pos) 0 it acc env = turnOf (.ListComp elt (⟨t, i, fs, 0⟩ :: rest) scope pos) 0 t i fs (K' acc env) it acc env)
    (hKK : ∀ acc env k A (Q : Fin → Shared → Prop) E s, wpAny (model P.prog P.w) A (K acc env) (fun _ s' => wpAny (model P.prog P.w) A k Q E s') (fun _ _ => False) s → wpAny (model P.prog P.w) A (K' acc env k) Q E s)
    (ht : SimA P D' t tgt) (hts : SimTs P D' fs ts) (hK : SimK P D' K c)
    (O : FOk P D F) {I : Addr} {items : List AV} {guard : St → Prop} {Ob : Nat → Obj → Prop} {o : Obj} {Q : List AV → St → Prop} {E : Value → Shared → Prop} (W : ∀ D', ItOk P D' F.A I items guard Ob) (R : Rel P D F σ s) (uI : Unt D F σ I)
    (hI : s.heap.get? I = some o) (ho : Ob 0 o) (h : cLoop items guard tgt (cTest ts c) Q [] ⟨capLoc m σ.loc, σ.hp⟩) :
    wpAny (model P.prog P.w) F.A (newList []) (fun acc s₃ => wpAny (model P.prog P.w) F.A (newFunctionEnv scope F.env.globals (clOf F.env scope.names []) [] F.env.qual none .none (some F.env)) (fun cenv s₄ =>
      codeAny (model P.prog P.w) F.A (.compStart (.ListComp elt (⟨t, i, fs, 0⟩ :: rest) scope pos) 0 (.ref I) acc { cenv with scope := relabel scope F.env }) (fun r s' => r = .ok .next ∧ CompDone P D F σ Q acc cenv.locals s') s₄) E s₃) E s := by
  have ua : Unt D F σ s.heap.objs.size := R.fresh (heap_size_none _)
  have nIa : I ≠ s.heap.objs.size := Nat.ne_of_lt (Heap.lt_size hI)
  refine wpAny_newObj_type (new_comp_env hC.kind fun h' hns hk hcell hap hne => ?_)
  have R₃ : Rel P D F σ { s with heap := s.heap.push { cls := .type "list", dict := none, data := .seq ([] : List Value).toArray } } := R.pushU _
  have hX : ∀ b ∈ [I, s.heap.objs.size], Unt D F σ b := fun b hb => by
    rcases List.mem_cons.mp hb with rfl | hb
    · exact uI
    · rw [List.mem_singleton.mp hb]; exact ua
  obtain ⟨O', R'⟩ := comp_frame (X := [I, s.heap.objs.size]) (h' := h') hC O R₃ hX hns hk hcell hap rfl
  have hIp : (s.heap.push { cls := .type "list", dict := none, data := .seq ([] : List Value).toArray }).get? I = some o := Heap.get?_push_of_some _ hI
  have hap' : (s.heap.push { cls := .type "list", dict := none, data := .seq ([] : List Value).toArray }).get? s.heap.objs.size = some { cls := .type "list", dict := none, data := .seq ([] : List Value).toArray } := Heap.get?_push_size _ rfl
  have toUnt : ∀ b ob, b ∈ [I, s.heap.objs.size] → (s.heap.push { cls := .type "list", dict := none, data := .seq ([] : List Value).toArray }).get? b = some ob →
      Unt D' (compF F σ.hp [I, s.heap.objs.size] (s.heap.push { cls := .type "list", dict := none, data := .seq ([] : List Value).toArray }) (s.heap.push { cls := .type "list", dict := none, data := .seq ([] : List Value).toArray }).objs.size
        { newEnv scope (s.heap.push { cls := .type "list", dict := none, data := .seq ([] : List Value).toArray }).objs.size F.env.globals (cellsFrom ((s.heap.push { cls := .type "list", dict := none, data := .seq ([] : List Value).toArray }).objs.size + 1) scope.names [] ++ clOf F.env scope.names []) F.env.qual none .none (some F.env) builtinsNs with scope := relabel scope F.env }) ⟨capLoc m σ.loc, σ.hp⟩ b := by
    intro b ob hb e
    have hu := hX b hb
    refine ⟨⟨Nat.ne_of_lt (Heap.lt_size e), ?_, fun hm => ?_, fun x c hx hc q => ?_⟩, hu.2⟩
    · show (compG F σ.hp _ _).get? b = none
      cases q : (compG F σ.hp [I, s.heap.objs.size] (s.heap.push { cls := .type "list", dict := none, data := .seq ([] : List Value).toArray })).get? b with
      | none => rfl
      | some o' => exact absurd hb (of_compG q).2.2.2
    · rcases List.mem_cons.mp ((curOuts_keys R₃ b).mp hm) with e1 | e1
      · exact hu.1.L e1
      · exact hu.1.outs e1
    · obtain ⟨j, hj⟩ := List.mem_iff_getElem?.mp hx
      obtain ⟨_, c', hc', _⟩ := O'.cell x hx
      have hc2 := hc.symm.trans hc'
      have := (hcell x c (by
        have h1 := cells_some (x := x) scope.names ((s.heap.push { cls := .type "list", dict := none, data := .seq ([] : List Value).toArray }).objs.size + 1) [] (hC.cell x hx)
        obtain ⟨c1, hc1⟩ := Option.isSome_iff_exists.mp h1
        have h2 : (cellsFrom ((s.heap.push { cls := .type "list", dict := none, data := .seq ([] : List Value).toArray }).objs.size + 1) scope.names [] ++ clOf F.env scope.names []).lookup x = some c1 := lookup_append_some hc1
        have h3 : some c = some c1 := hc.symm.trans h2
        cases h3
        exact mem_of_lookup hc1)).2
      rw [q] at this
      exact absurd (Heap.lt_size e) (Nat.not_lt.mpr (Nat.le_of_lt this))
  have loop := loop_sim hT hKK ht hts hK O' (I := I) (a := s.heap.objs.size) (l := []) (W D') R' (toUnt I _ (by simp) hIp) (hk _ _ hIp) ho ⟨toUnt s.heap.objs.size _ (by simp) hap', ⟨[], 0, hk _ _ hap', trivial, Nat.zero_le _⟩⟩ (Ne.symm nIa) h
  refine codeAny_mono (codeAny_compStart_list loop ((W D').self 0 o _ _ _ ho (hk _ _ hIp) loop)) ?_
  rintro r s' ⟨rfl, l', σ', R₄, x₄, h₄⟩
  refine ⟨rfl, ⟨s.heap.objs.size, ?_⟩⟩
  have R₅ := comp_back O R₃ hX R₄
  obtain ⟨mm, hmm, _⟩ := R₄.ns
  refine ⟨mm, l', σ', rfl, R₅, ⟨comp_unt O R₃ hX x₄.unt, x₄.obj⟩, ?_, hmm, ?_, h₄⟩
  · have fr : Free D F (s.heap.push { cls := .type "list", dict := none, data := .seq ([] : List Value).toArray }).objs.size := (R₃.fresh (heap_size_none _)).1
    refine ⟨fr, ?_⟩
    show σ'.hp _ = none
    cases q : σ'.hp (s.heap.push { cls := .type "list", dict := none, data := .seq ([] : List Value).toArray }).objs.size with
    | none => exact q
    | some oo =>
      exfalso
      obtain ⟨_, y, z⟩ := R₄.hp _ oo q
      cases hfz : oo.frozen with
      | false => exact (z hfz).2.1 rfl
      | true =>
        obtain ⟨o2, e2⟩ := Option.isSome_iff_exists.mp (y hfz)
        exact nomatch (e2.symm.trans O'.kbL)
  · exact Ne.symm (Nat.ne_of_lt (Heap.lt_size hap'))

noncomputable def pComp (m : List (Option Nat)) (src : IP) (tgt : AV → SP) (c : CP) : EP := fun Q E σ => src (fun items guard σ₁ => cLoop items guard tgt c (fun l σ' => ∀ a, σ'.hp a = none → Q (.ref a) ⟨σ₁.loc, upd σ'.hp a (.list l)⟩) [] ⟨capLoc m σ₁.loc, σ₁.hp⟩) E σ

theorem CompDone.post {σ₂ : St} {Q : AV → St → Prop} {acc : Value} {C : Addr} {s' : Shared} (x : CompDone P D F σ₂ (fun l σ' => ∀ a, σ'.hp a = none → Q (.ref a) ⟨σ₂.loc, upd σ'.hp a (.list l)⟩) acc C s') {h' : Heap} (hs : Heap.SameBut C s'.heap h') : RE P D F Q acc { s' with heap := h' } := by
  obtain ⟨a, m', l, σ', rfl, R, xa, uC, hn, ne, hq⟩ := x.out
  refine ⟨.ref a, ⟨σ₂.loc, upd σ'.hp a (.list l)⟩, rfl, ?_, hq a xa.unt.2⟩
  have := R.change (fun b => b = C ∨ b = a) (h' := h') (t := s'.toks) (hp' := upd σ'.hp a (.list l)) (fun b hb => hb.elim (fun e => e ▸ uC.1) fun e => e ▸ xa.unt.1) (fun b ob hb e => (hs.2 b fun q => hb (.inl q)).trans e) fun b ob e => ?_
  · exact this
  · by_cases hb : b = a
    · subst hb
      have : ob = .list l := by simpa [upd] using e.symm
      subst this
      exact .inr ⟨xa.unt.1, rfl, AObj.at_of xa.obj fun ob' e' => (hs.2 b (Ne.symm ne)).trans e'⟩
    · have e' : σ'.hp b = some ob := by simpa [upd, hb] using e
      refine .inl ⟨e', fun q => q.elim (fun q => ?_) hb⟩
      have := uC.2
      rw [q] at e'
      rw [show σ'.hp C = none from this] at e'; cases e'

theorem sim_comp {elt : Expr} {t i : Expr} {fs : List Expr} {rest : List Comprehension} {scope : Scope} {pos : Pos} {m : List (Option Nat)} {K : Value → Env → Sem Unit} {K' : Value → Env → Sem Fin → Sem Fin} {src : IP} {tgt : AV → SP} {ts : Option TP} {c : CP}
    (hC : CompOk D D' scope m)
    (hT : ∀ it acc env, compTurn (.ListComp elt (⟨t, i, fs, 0⟩ :: rest) scope pos) 0 it acc env = turnOf (.ListComp elt (⟨t, i, fs, 0⟩ :: rest) scope pos) 0 t i fs (K' acc env) it acc env)
    (hKK : ∀ acc env k A (Q : Fin → Shared → Prop) E s, wpAny (model P.prog P.w) A (K acc env) (fun _ s' => wpAny (model P.prog P.w) A k Q E s') (fun _ _ => False) s → wpAny (model P.prog P.w) A (K' acc env k) Q E s)
    (hi : SimI P D i src) (ht : SimA P D' t tgt) (hts : SimTs P D' fs ts) (hK : SimK P D' K c) (hs : ∀ env x, foldedSetIterable i env x = pure x) :
    SimE P D (.ListComp elt (⟨t, i, fs, 0⟩ :: rest) scope pos) (pComp m src tgt (cTest ts c)) := by
  intro F O σ s Q E R hp
  have freeCell : ∀ x, (x, NameKind.free) ∈ scope.names → ∃ c, F.env.cells.lookup x = some c := fun x hx => by
    rcases hC.free x hx with h | h
    · obtain ⟨_, c, hc, _⟩ := O.cell x h; exact ⟨c, hc⟩
    · exact (O.cap x h).2
  rw [eval_ListComp]
  refine wpAny_comprehension_free rfl (hs _) (closureFor_eq freeCell) hC.kind hC.names ?_
  refine wpAny_mono (hi F O σ s _ E R hp) ?_ fun _ _ x => x
  intro x s₁ h₁
  refine wpAny_mono h₁ ?_ fun _ _ x => x
  rintro it s₂ ⟨I, items, guard, Ob, σ₂, o₂, rfl, R₂, u₂, hI₂, ho₂, W, hL⟩
  refine wpAny_mono (comp_core hC hT hKK ht hts hK O W R₂ u₂ hI₂ ho₂ hL) ?_ fun _ _ x => x
  intro acc s₃ h₃
  refine wpAny_mono h₃ ?_ fun _ _ x => x
  intro cenv s₄ h₄
  refine codeAny_mono h₄ ?_
  rintro r s' ⟨rfl, x⟩
  obtain ⟨a, m', l, σ', _, _, _, _, hn, _⟩ := x.out
  exact ⟨m', hn, fun h' hs' => x.post hs'⟩

theorem sim_assignComp {elt : Expr} {t i : Expr} {fs : List Expr} {rest : List Comprehension} {scope : Scope} {pos apos npos : Pos} {y : Str} {m : List (Option Nat)} {K : Value → Env → Sem Unit} {K' : Value → Env → Sem Fin → Sem Fin} {src : IP} {tgt : AV → SP} {ts : Option TP} {c : CP} {f : AV → SP}
    (hC : CompOk D D' scope m)
    (hT : ∀ it acc env, compTurn (.ListComp elt (⟨t, i, fs, 0⟩ :: rest) scope pos) 0 it acc env = turnOf (.ListComp elt (⟨t, i, fs, 0⟩ :: rest) scope pos) 0 t i fs (K' acc env) it acc env)
    (hKK : ∀ acc env k A (Q : Fin → Shared → Prop) E s, wpAny (model P.prog P.w) A (K acc env) (fun _ s' => wpAny (model P.prog P.w) A k Q E s') (fun _ _ => False) s → wpAny (model P.prog P.w) A (K' acc env k) Q E s)
    (hi : SimI P D i src) (ht : SimA P D' t tgt) (hts : SimTs P D' fs ts) (hK : SimK P D' K c) (hs : ∀ env x, foldedSetIterable i env x = pure x) (hy : SimA P D (.Name y npos) f) :
    SimS P D (.Assign [.Name y npos] (.ListComp elt (⟨t, i, fs, 0⟩ :: rest) scope pos) apos) (sAssign (pComp m src tgt (cTest ts c)) f) := by
  intro F O σ s Q E R hp
  have hsw : ∃ b, swapsWith (.ListComp elt (⟨t, i, fs, 0⟩ :: rest) scope pos) (some (.Name y npos)) apos.line F.env = pure b := ⟨_, rfl⟩
  obtain ⟨b, hb⟩ := hsw
  cases b with
  | false =>
    refine wpAny_Assign_stores (wpAny_mono (sim_comp hC hT hKK hi ht hts hK hs F O σ s _ E R hp) ?_ fun _ _ x => x) hb rfl
    rintro u s₁ ⟨v, σ₁, hv, R₁, h₁⟩
    exact wpAny_mono (hy F O v u hv σ₁ s₁ Q E R₁ h₁) (fun _ _ x => flow_next x) fun _ _ x => x
  | true =>
    rw [exec_Assign_Name_used _ _ _ _ hb]
    refine wpAny_bind (wpAny_standAt (wpAny_bind ?_))
    rw [arm_evalThenUse_ListComp]
    have freeCell : ∀ x, (x, NameKind.free) ∈ scope.names → ∃ c, F.env.cells.lookup x = some c := fun x hx => by
      rcases hC.free x hx with h | h
      · obtain ⟨_, c, hc, _⟩ := O.cell x h; exact ⟨c, hc⟩
      · exact (O.cap x h).2
    refine wpAny_bind (wpAny_comprehension_free (use := some (assign (.Name y npos) F.env)) rfl (hs _) (closureFor_eq freeCell) hC.kind hC.names ?_)
    refine wpAny_mono (hi F O σ s _ E R hp) ?_ fun _ _ x => x
    intro x s₁ h₁
    refine wpAny_mono h₁ ?_ fun _ _ x => x
    rintro it s₂ ⟨I, items, guard, Ob, σ₂, o₂, rfl, R₂, u₂, hI₂, ho₂, W, hL⟩
    refine wpAny_mono (comp_core hC hT hKK ht hts hK O W R₂ u₂ hI₂ ho₂ hL) ?_ fun _ _ x => x
    intro acc s₃ h₃
    refine wpAny_mono h₃ ?_ fun _ _ x => x
    intro cenv s₄ h₄
    refine codeAny_mono h₄ ?_
    rintro r s' ⟨rfl, x⟩
    obtain ⟨a, m', l, σ', rfl, Rc, xa, uC, hn, ne, hq⟩ := id x.out
    have Rt : Rel P D F ⟨σ₂.loc, upd σ'.hp a (.list l)⟩ s' := by
      have := Rc.change (fun b => b = a) (h' := s'.heap) (t := s'.toks) (hp' := upd σ'.hp a (.list l)) (fun b e => e ▸ xa.unt.1) (fun b ob hb e => e) fun b ob e => ?_
      · exact this
      · by_cases hb : b = a
        · subst hb
          have : ob = .list l := by simpa [upd] using e.symm
          subst this
          exact .inr ⟨xa.unt.1, rfl, xa.obj⟩
        · exact .inl ⟨by simpa [upd, hb] using e, hb⟩
    have uC' : Unt D F ⟨σ₂.loc, upd σ'.hp a (.list l)⟩ cenv.locals := ⟨uC.1, by show upd σ'.hp a (.list l) _ = none; unfold upd; rw [if_neg ne]; exact uC.2⟩
    obtain ⟨oC, es, ep, hC1, hC2, hC3⟩ := id hn
    have nc : ∀ v, oC.data ≠ .cell v := fun v hv => by rw [hC2] at hv; cases hv
    have hy' := hy _ (O.prot Rt uC') (.ref a) (.ref a) rfl _ _ Q E (Rt.prot uC') (hq a xa.unt.2)
    refine wpAny_mono hy' ?_ fun e s₅ x => RX.unprot Rt hC1 nc x
    rintro _ s₅ ⟨σ₅, R₅, h₅⟩
    obtain ⟨R₆, e₆⟩ := Rt.unprot hC1 nc R₅
    have u₆ := unt_back O uC' hC1 R₅
    refine ⟨m', ⟨oC, es, ep, e₆, hC2, hC3⟩, fun h' hs' => ?_⟩
    refine wpAny_pure (wpAny_pure (flow_next ⟨σ₅, ?_, h₅⟩))
    exact R₆.change (fun b => b = cenv.locals) (t := s₅.toks) (fun b e => e ▸ u₆.1) (fun b ob hb e => (hs'.2 b hb).trans e) fun b ob e => .inl ⟨e, fun q => by rw [q, u₆.2] at e; cases e⟩

theorem kk_emit {elt : Expr} (acc : Value) (env : Env) (k : Sem Fin) (A : Around) (Q : Fin → Shared → Prop) (E : Value → Shared → Prop) (s : Shared) (h : wpAny (model P.prog P.w) A (emitK elt acc env) (fun _ s' => wpAny (model P.prog P.w) A k Q E s') (fun _ _ => False) s) : wpAny (model P.prog P.w) A (emitC elt acc env k) Q E s :=
  wpAny_bind (wpAny_mono h (fun _ _ h => h) fun _ _ z => z.elim)
/-- [elt for t in i if ..] -/
theorem sim_comp1 {elt t i : Expr} {fs : List Expr} {scope : Scope} {pos : Pos} {m : List (Option Nat)} {src : IP} {tgt : AV → SP} {ts : Option TP} {pe : EP}
    (hC : compOkB D D' scope m = true) (hi : SimI P D i src) (ht : SimA P D' t tgt) (hts : SimTs P D' fs ts) (he : SimE P D' elt pe) (hs : ∀ env x, foldedSetIterable i env x = pure x := by intro _ _; rfl) :
    SimE P D (.ListComp elt [⟨t, i, fs, 0⟩] scope pos) (pComp m src tgt (cTest ts (cEmit pe))) := sim_comp (CompOk.of hC) turn_one kk_emit hi ht hts (simK_emit he) hs
theorem sim_asgComp1 {elt t i : Expr} {fs : List Expr} {scope : Scope} {pos apos npos : Pos} {y : Str} {m : List (Option Nat)} {src : IP} {tgt : AV → SP} {ts : Option TP} {pe : EP} {f : AV → SP}
    (hC : compOkB D D' scope m = true) (hi : SimI P D i src) (ht : SimA P D' t tgt) (hts : SimTs P D' fs ts) (he : SimE P D' elt pe) (hy : SimA P D (.Name y npos) f) (hs : ∀ env x, foldedSetIterable i env x = pure x := by intro _ _; rfl) :
    SimS P D (.Assign [.Name y npos] (.ListComp elt [⟨t, i, fs, 0⟩] scope pos) apos) (sAssign (pComp m src tgt (cTest ts (cEmit pe))) f) := sim_assignComp (CompOk.of hC) turn_one kk_emit hi ht hts (simK_emit he) hs hy
end
end
section
section
variable {P : PC} {D : FD} {F : FX} {σ : St} {s : Shared}

-- what is never reached
noncomputable def sDead : SP := fun _ _ _ => False
noncomputable def eDead : EP := fun _ _ _ => False
theorem sim_ssdead (st : List Stmt) : SimSs P D st sDead := fun _ _ _ _ _ _ _ h => h.elim
-- (x := e)
noncomputable def pWal (p : EP) (f : AV → SP) : EP := fun Q E σ => p (fun v σ₁ => f v (fun _ σ₂ => Q v σ₂) E σ₁) E σ
theorem sim_wal {t value : Expr} {pos : Pos} {p : EP} {f : AV → SP} (h : SimE P D value p) (ht : SimA P D t f) : SimE P D (.NamedExpr t value pos) (pWal p f) := by
  intro F O σ s Q E R hp
  refine wpAny_NamedExpr (wpAny_mono (h F O σ s _ E R hp) ?_ fun _ _ x => x)
  rintro u s₁ ⟨v, σ₁, hv, R₁, h₁⟩
  refine wpAny_mono (ht F O v u hv σ₁ s₁ _ E R₁ h₁) ?_ fun _ _ x => x
  rintro _ s₂ ⟨σ₂, R₂, h₂⟩
  exact ⟨v, σ₂, hv, R₂, h₂⟩

-- d.values()
noncomputable def iVals (o : EP) : IP := fun Q E σ => o (fun v σ₁ => ∃ a es ep, v = .ref a ∧ σ₁.hp a = some (.dict es ep) ∧ Q (es.map (·.2)) (fun σ => σ.hp a = some (.dict es ep)) σ₁) E σ
theorem sim_iVals {o : Expr} {apos pos : Pos} {x : Str} {po : EP} (ho : SimE P D o po) (hx : x = ("values" : Str) := by rfl) (hc : D.calm = true := by rfl) 
    (hbase : ∀ env, attributeBase o x env (eval o env) = eval o env := by intro _; rfl)
    (hline : (apos.endLine == pos.line) = true := by rfl) : SimI P D (.Call (.Attribute o x apos) [] [] pos) (iVals po) := by
  intro F O σ s Q E R hp
  subst hx
  rw [arm_eval_Call, hbase]
  refine wpAny_bind (wpAny_mono (ho F O σ s _ E R hp) ?_ fun _ _ x => x)
  rintro ov s₁ ⟨av, σ₁, hav, R₁, a, es, ep, rfl, h1, h2⟩
  subst hav
  refine wpAny_bind (wpAny_standAt ?_)
  have hpos : methodCallPos true o F.env apos pos = pure pos := by unfold methodCallPos; simp [hline]
  obtain ⟨t1, ob', t2, t3⟩ := ty_is R₁ h1 rfl
  obtain ⟨kvs, hd, hes, hsys, hz⟩ := (R₁.hp a _ h1).1
  have hl := dictEs_len hes
  unfold methodCall
  refine wpAny_bind (wpAny_holding (getMethod_builtin t1 PySem.F.plainAttrs_dict PySem.F.slot_dict_values PySem.F.type_dict_values (fun a' e => by cases e; exact ⟨ob', t2, t3⟩) ?_))
  refine wpAny_bind (wpAny_of_eq hpos ?_)
  refine callWith_builtin rfl (wpAny_pure ?_)
  refine call_meetsIn PySem.F.slot_dict_values hd.dictOf.typeIs PySem.F.entry_dict_values (PySem.F.args_dict_values_1 _) (meets_dict_values (intKind P.prog P.w) a hsys) ⟨⟨kvs, hd.dictOf⟩, ?_⟩
  have R₂ : Rel P D F σ₁ { s₁ with heap := s₁.heap.push { cls := .type "dict_values", data := .fields #[.ref a] } } := R₁.pushU _
  obtain ⟨kvs2, hd2, hes2, _, _⟩ := (R₂.hp a _ h1).1
  have hl2 := dictEs_len hes2
  exact wpAny_pyIter_values (knd := intKind P.prog P.w) (v := s₁.heap.objs.size) ⟨_, Heap.get?_push_size _ rfl, rfl, rfl⟩ hd2 ⟨_, _, _, _, σ₁, _, rfl, R₂.pushU _, R₂.fresh (heap_size_none _), Heap.get?_push_size _ rfl, ⟨rfl, by rw [hl2]; rfl⟩, fun _ => itOk_vals (O.hh hc), h2⟩

-- del d[k]
noncomputable def opDel : AV → AV → SP
  | .ref a, .int k => fun Q _ σ => ∃ es ep, σ.hp a = some (.dict es ep) ∧ es.any (fun e => e.1 = k) = true ∧ ∀ ep', Q .next ⟨σ.loc, upd σ.hp a (.dict (es.filter fun e => e.1 ≠ k) ep')⟩
  | _, _ => fun _ _ _ => False
theorem without_es (k : Int) : ∀ {es : List (Int × AV)} {kvs : List (Int × Value)}, dictEs es kvs → dictEs (es.filter fun e => e.1 ≠ k) (without kvs k)
  | [], [], _ => ⟨rfl, trivial⟩
  | e :: es, x :: kvs, ⟨h1, h2⟩ => by
    simp only [List.map_cons, List.cons.injEq] at h1
    obtain ⟨h3, h4⟩ := h2
    have ih := without_es k (es := es) (kvs := kvs) ⟨h1.2, h4⟩
    unfold without at ih ⊢
    rw [List.filter_cons, List.filter_cons, h1.1]
    by_cases hk : e.1 = k
    · simp only [hk]; simpa using ih
    · simp only [ne_eq, hk, not_false_eq_true, decide_true, if_true]
      refine ⟨?_, ?_⟩
      · simp only [List.map_cons, List.cons.injEq]; exact ⟨h1.1, ih.1⟩
      · exact ⟨h3, ih.2⟩
  | [], _ :: _, ⟨h1, _⟩ => by simp at h1
  | _ :: _, [], ⟨h1, _⟩ => by simp at h1
theorem any_value {es : List (Int × AV)} {kvs : List (Int × Value)} (h : dictEs es kvs) (k : Int) (ha : es.any (fun e => e.1 = k) = true) : (valueAt kvs k).isSome = true := by
  cases q : (es.find? fun e => e.1 = k).map (·.2) with
  | none =>
    exfalso
    obtain ⟨e, he, hk⟩ := List.any_eq_true.mp ha
    rw [Option.map_eq_none_iff, List.find?_eq_none] at q
    exact q e he hk
  | some v => obtain ⟨u', h4, _⟩ := dict_value h k q; rw [h4]; rfl
noncomputable def sDel (o i : EP) : SP := fun Q E σ => o (fun ov σ₁ => i (fun iv σ₂ => opDel ov iv Q E σ₂) E σ₁) E σ
theorem sim_del {o i : Expr} {tp pos : Pos} {po pi : EP} (ho : SimE P D o po) (hi : SimE P D i pi) : SimS P D (.Delete [.Subscript o i tp] pos) (sDel po pi) := by
  intro F O σ s Q E R hp
  refine wpAny_Delete ?_
  rw [arm_deleteEach_cons]
  refine wpAny_bind (delete_Subscript (wpAny_mono (ho F O σ s _ E R hp) ?_ fun _ _ x => x))
  rintro ov s₁ ⟨a, σ₁, ha, R₁, h₁⟩
  refine wpAny_mono (hi F O σ₁ s₁ _ E R₁ h₁) ?_ fun _ _ x => x
  rintro iv s₂ ⟨b, σ₂, hb, R₂, h₂⟩
  cases a <;> cases b <;> try exact h₂.elim
  rename_i a k
  subst ha
  obtain ⟨t, rfl⟩ := hb
  obtain ⟨es, ep, h1, h2, h3⟩ := h₂
  obtain ⟨kvs, hd, hes, hsys, hz⟩ := (R₂.hp a _ h1).1
  have hl := dictEs_len hes
  unfold delItem
  try with_reducible refine wpAny_holding ?_
  refine wpAny_bind (wpAny_sequenceKey hd.dictOf.typeIs (by decide) ?_)
  refine wpAny_bind (wpAny_callSpecial?_slot (name := Str.ofString "__delitem__") hd.dictOf.typeIs PySem.F.slot_dict_delitem
    (call_meetsIn PySem.F.slot_dict_delitem hd.dictOf.typeIs PySem.F.entry_dict_delitem (PySem.F.args_dict_delitem_2 _ _) (meets_dict_delitem_pairs (intKind P.prog P.w) a (k := k) (by simp [intKind, Value.isInt])) ⟨kvs, hd.dictOf, (by rw [sizeLine_eq]; (first | lia | omega)), any_value hes k h2, fun h' hmm hs => ?_⟩))
  obtain ⟨o, es', ep', q⟩ := hmm
  refine wpAny_pure ?_
  rw [arm_deleteEach_nil]
  refine wpAny_pure (flow_next ⟨_, R₂.set (o' := .dict (es.filter fun e => e.1 ≠ k) ep') (t := s₂.toks + 1) h1 rfl hs rfl ⟨_, ⟨o, es', q⟩, without_es k hes, hsys, ?_⟩, h3 ep'⟩)
  exact Nat.le_trans (List.length_filter_le _ _) hz
end
end
section
theorem slot_li_ga : Slot "list_iterator" "__getattribute__" "object.__getattribute__" :=
  .of (owner := "object") (n := "__getattribute__") (by rw [typeLookup_type, builtinLookup_eq_fast]; kernel_rfl) (by decide +kernel) (by decide +kernel) (by decide +kernel)
    (by first | exact .inl (by decide +kernel) | exact .inr (by decide +kernel)) (by rw [isSubtype_type]; kernel_rfl)
theorem type_lin : typeOf (.builtin "list_iterator.__next__") = pure (.type "wrapper_descriptor") := by show builtinType _ = _; rw [builtinType_eq_fast]; kernel_rfl
theorem get_wd : typeLookup (.type "wrapper_descriptor") (Str.ofString "__get__") = pure (some (.builtin "wrapper_descriptor.__get__")) := by rw [typeLookup_type, builtinLookup_eq_fast]; kernel_rfl
theorem set_wd : typeLookup (.type "wrapper_descriptor") (Str.ofString "__set__") = pure none := by rw [typeLookup_type, builtinLookup_eq_fast]; kernel_rfl
theorem del_wd : typeLookup (.type "wrapper_descriptor") (Str.ofString "__delete__") = pure none := by rw [typeLookup_type, builtinLookup_eq_fast]; kernel_rfl
theorem li_noGetattr : typeLookup (.type "list_iterator") (Str.ofString "__getattr__") = pure none := by rw [typeLookup_type, builtinLookup_eq_fast]; kernel_rfl
theorem slot_wd_get : Slot "wrapper_descriptor" "__get__" "wrapper_descriptor.__get__" :=
  .of (owner := "wrapper_descriptor") (n := "__get__") (by rw [typeLookup_type, builtinLookup_eq_fast]; kernel_rfl) (by decide +kernel) (by decide +kernel) (by decide +kernel)
    (by first | exact .inl (by decide +kernel) | exact .inr (by decide +kernel)) (by rw [isSubtype_type]; kernel_rfl)
theorem entry_wd_get : entryFor table "wrapper_descriptor.__get__" = some Builtin.«wrapper_descriptor.__get__» := entryFor_of_fast (by kernel_rfl)
theorem args_wd_get (a b c : Value) : argsOk "wrapper_descriptor.__get__" ⟨[a, b, c], []⟩ := by unfold argsOk; kernel_rfl
theorem entry_oga : entryFor table "object.__getattribute__" = some Builtin.«object.__getattribute__» := entryFor_of_fast (by kernel_rfl)
theorem args_oga (a b : Value) : argsOk "object.__getattribute__" ⟨[a, b], []⟩ := by unfold argsOk; kernel_rfl
theorem sub_li : isSubtype (.type "list_iterator") (.type "list_iterator") = pure true := by rw [isSubtype_type]; kernel_rfl
theorem meets_wd (a : Addr) :
    Meets (Builtin.«wrapper_descriptor.__get__» ⟨[.builtin "list_iterator.__next__", .ref a, .type "list_iterator"], []⟩) (fun _ R s => s.TypeIs (.ref a) "list_iterator" ∧ R (.ok (.ret (.ref s.heap.objs.size))) { s with heap := s.heap.push { cls := .type "method-wrapper", data := .fields #[.builtin "list_iterator.__next__", .ref a] } }) :=
  Meets.of_wp fun prog w A R s hs => by
    obtain ⟨hT, hs⟩ := hs
    unfold Builtin.«wrapper_descriptor.__get__»
    refine wpAny_bind (wpAny_of_eq (a := (.builtin "list_iterator.__next__", some (.ref a), some (.type "list_iterator"))) (by first | rfl | kernel_rfl) ?_)
    refine wpAny_bind ?_
    refine wpAny_mono (Q := fun _ s' => s' = s) (E := fun _ _ => False) ?_ ?_ fun _ _ z => z.elim
    · show wpAny _ _ (isInstance (.ref a) (.type "list_iterator") >>= _) _ _ _
      refine wpAny_bind (wpAny_isInstance hT sub_li ?_)
      exact wpAny_pure rfl
    · rintro _ _ rfl
      exact wpAny_bind (wpAny_newObj_type (wpAny_pure ⟨_, rfl, hs⟩))
theorem meets_next (a l : Addr) (u : Tok) :
    Meets (Builtin.«object.__getattribute__» ⟨[.ref a, .str "__next__" u], []⟩) (fun _ R s => s.heap.get? a = some { cls := .type "list_iterator", data := .fields #[.ref l, .int 0 0] } ∧ R (.ok (.ret (.ref s.heap.objs.size))) { s with heap := s.heap.push { cls := .type "method-wrapper", data := .fields #[.builtin "list_iterator.__next__", .ref a] } }) :=
  Meets.of_wp fun prog w A R s hs => by
    obtain ⟨hp, g, d, tk, os⟩ := s
    obtain ⟨hx, hs⟩ := hs
    have hT : (⟨hp, g, d, tk, os⟩ : Shared).TypeIs (.ref a) "list_iterator" := ⟨_, hx, rfl⟩
    have f1 := slot_listiter_next.lookup
    have f2 := type_lin
    have f3 := get_wd
    have f4 := set_wd
    have f5 := del_wd
    unfold Builtin.«object.__getattribute__»
    repeat (any_goals (first | assumption | ((with_reducible show wpAny _ _ (call (Value.builtin "wrapper_descriptor.__get__") _ _) _ _ _); refine call_meets slot_wd_get f2 entry_wd_get (args_wd_get _ _ _) (meets_wd a) ⟨hT, ?_⟩) | wp_step))
    exact wpAny_pure ⟨_, rfl, hs⟩
theorem attr_next {prog : Program} {w : World} {A : Around} {E : Value → Shared → Prop} {s : Shared} {a l : Addr} {Q : Value → Shared → Prop} (hx : s.heap.get? a = some { cls := .type "list_iterator", data := .fields #[.ref l, .int 0 0] })
    (h : Q (.ref s.heap.objs.size) { s with heap := s.heap.push { cls := .type "method-wrapper", data := .fields #[.builtin "list_iterator.__next__", .ref a] }, toks := s.toks + 1 }) : wpAny (model prog w) A (getAttr (.ref a) "__next__" true) Q E s := by
  obtain ⟨hp, g, d, tk, os⟩ := s
  have hT : ∀ tk', (⟨hp, g, d, tk', os⟩ : Shared).TypeIs (.ref a) "list_iterator" := fun _ => ⟨_, hx, rfl⟩
  have f3 := slot_li_ga.lookup
  have f4 := slot_li_ga.bind (.ref a)
  have f5 := li_noGetattr
  unfold getAttr getAttrBy
  repeat (any_goals (first | assumption | exact hT _ | ((with_reducible show wpAny _ _ (call (Value.builtin "object.__getattribute__") _ _) _ _ _); refine call_meets slot_li_ga (hT _) entry_oga (args_oga _ _) (meets_next a l _) ⟨hx, ?_⟩) | wp_step))
  show wpAny _ _ (handedOut (.ref _)) Q E _
  exact wpAny_pure h

section
variable {P : PC} {D : FD} {F : FX} {σ : St} {s : Shared}
/-- iter(l).__next__ -/
noncomputable def pIterNext (p : EP) : EP := fun Q E σ => p (fun v σ₁ => ∃ l items, v = .ref l ∧ σ₁.lst l = some items ∧ ∀ I u, I ≠ u → σ₁.hp I = none → σ₁.hp u = none → Q (.ref u) ⟨σ₁.loc, upd (upd σ₁.hp I (.iter l 0)) u (.next I)⟩) E σ
theorem sim_iterNext {x attr : Str} {np cpos pos : Pos} {e : Expr} {p : EP} (hx : x ∈ D.globs) (hf : freeName P x) (hv : bootBuiltins x = some (.builtin "iter")) (ha : attr = ("__next__" : Str)) (h : SimL P D [e] (lCons p lNil))
    (hbase : ∀ env, attributeBase (.Call (.Name x np) [e] [] cpos) attr env (eval (.Call (.Name x np) [e] [] cpos) env) = eval (.Call (.Name x np) [e] [] cpos) env := by intro _; rfl)
    (he : ∀ env, starEach [e] env = (false, eval e env) :: starEach [] env := by intro _; rfl) (hd : (x == ("__debug__" : Str)) = false := by decide) :
    SimE P D (.Attribute (.Call (.Name x np) [e] [] cpos) attr pos) (pIterNext p) := by
  intro F O σ s Q E R hp
  subst ha
  rw [arm_eval_Attribute, hbase]
  refine wpAny_bind ?_
  refine wpAny_Call_ofName (glob_bi O R hx hf hv ?_ hd)
  refine PyProof.Rows.callWith_builtin1 (wpAny_mono (h F O cpos σ s (fun vs σ₁ => match vs with
    | [v] => ∃ l items, v = .ref l ∧ σ₁.lst l = some items ∧ ∀ I u, I ≠ u → σ₁.hp I = none → σ₁.hp u = none → Q (.ref u) ⟨σ₁.loc, upd (upd σ₁.hp I (.iter l 0)) u (.next I)⟩
    | _ => False) E R hp) ?_ fun _ _ x => x) (he _) rfl
  rintro us s₁ ⟨vs, σ₁, hr, R₁, h₁⟩
  match vs, hr, h₁ with
  | [_], hr, ⟨l, items, e1, hl, hq⟩ =>
    obtain ⟨w, rfl, hw⟩ := hr.one
    subst e1
    subst hw
    obtain ⟨xs, e', r, hz⟩ := R₁.isList hl
    refine call_function_entry (by decide +kernel) (by decide +kernel) kdk_entry_iter (kdk_args_iter _) ?_
    unfold Builtin.«iter»
    refine wpAny_bind (m := someArgs "iter" 1 2 _) (wpAny_of_eq (a := [Value.ref l]) (by first | rfl | kernel_rfl!) ?_)
    show wpAny _ _ (pyIter (.ref l) >>= _) _ _ _
    refine wpAny_bind (wpAny_pyIter_list e' ?_)
    refine wpAny_pure ⟨_, rfl, ?_⟩
    refine wpAny_bind (wpAny_standAt (wpAny_bind (wpAny_holding (attr_next (l := l) (Heap.get?_push_size _ rfl) ?_))))
    refine wpAny_bind (wpAny_letTemporaryGo (wpAny_pure ?_))
    have f1 := R₁.fresh (heap_size_none s₁.heap)
    have R₂ := R₁.push { cls := .type "list_iterator", data := .fields #[.ref l, .int 0 0] } (.iter l 0) rfl ⟨_, Heap.get?_push_size _ rfl, rfl, rfl⟩
    have f2 := R₂.fresh (heap_size_none _)
    have R₃ := R₂.push { cls := .type "method-wrapper", data := .fields #[.builtin "list_iterator.__next__", .ref s₁.heap.objs.size] } (.next s₁.heap.objs.size) rfl (Heap.get?_push_size _ rfl)
    have ne : s₁.heap.objs.size ≠ (s₁.heap.push { cls := .type "list_iterator", data := .fields #[.ref l, .int 0 0] }).objs.size := by rw [Heap.size_push]; exact Nat.ne_of_lt (Nat.lt_succ_self _)
    refine ⟨.ref _, _, rfl, R₃.toks, hq _ _ ne f1.2 ?_⟩
    have := f2.2
    simpa [upd, Ne.symm ne] using this

/-- f() where f is the __next__ of a list's iterator -/
noncomputable def opNextCall : AV → EP
  | .ref u => fun Q E σ => ∃ I l i items, σ.hp u = some (.next I) ∧ σ.hp I = some (.iter l i) ∧ σ.lst l = some items ∧ (match items[i]? with
    | some v => Q v ⟨σ.loc, upd σ.hp I (.iter l (i + 1))⟩
    | none => E .stop ⟨σ.loc, fun b => if b = I then none else σ.hp b⟩)
  | _ => fun _ _ _ => False
theorem check_lin {a : Addr} : checkBoundCall "list_iterator.__next__" ⟨[.ref a], []⟩ = pure () := by first | kernel_rfl | rfl
theorem op_nextCall (O : FOk P D F) (hc : D.calm = true) (f : AV) (fu : Value) (hf : f.rep fu) : OpSim P D F (call fu []) (opNextCall f) := by
  intro σ s Q E R h
  cases f <;> try exact h.elim
  rename_i u
  subst hf
  obtain ⟨I, l, i, items, hu, hI, hl, hm⟩ := h
  obtain ⟨xs, e', r, hz⟩ := R.isList hl
  have hU : s.heap.get? u = some { cls := .type "method-wrapper", data := .fields #[.builtin "list_iterator.__next__", .ref I] } := (R.hp u _ hu).1
  have hit : s.heap.IsListIter I l i := (R.hp I _ hI).1
  have frI := R.free hI rfl
  refine wpAny_call (codeAny_of_tree ?_)
  show wpAny _ F.A.in1 (callAny (.ref u) ⟨[], []⟩) _ _ s
  simp only [callAny]
  refine wpAny_bind (wpAny_load hU ?_)
  simp only [show (Value.type "method-wrapper" == Value.type "method" || Value.type "method-wrapper" == Value.type "builtin_function_or_method" || Value.type "method-wrapper" == Value.type "method-wrapper") = true by decide, if_true]
  show wpAny _ _ (if (Value.type "method-wrapper" != Value.type "method") = true then _ else _) _ _ s
  rw [if_pos (by decide)]
  refine wpAny_bind (wpAny_of_eq (a := ()) check_lin ?_)
  refine wpAny_bind (wpAny_pure (wpAny_pure ?_))
  refine ⟨Code.quiet_builtin _ (by decide +kernel), codeAny_builtin entry_listiter_next ?_⟩
  obtain ⟨o, ho, hcl, hd⟩ := id hit
  obtain ⟨ol, hol, _, nl, hdl⟩ := e'
  show wpAny _ _ (field (.ref I) 0 >>= _) _ _ s
  refine wpAny_bind (wpAny_field ho hd (x := .ref l) rfl ?_)
  show wpAny _ _ (if (Value.ref l == Value.none) = true then _ else _) _ _ s
  rw [if_neg (show ¬ ((Value.ref l == Value.none) = true) from Bool.false_ne_true)]
  show wpAny _ _ (field (.ref I) 1 >>= _) _ _ s
  refine wpAny_bind (wpAny_field ho hd (x := .int i 0) rfl ?_)
  show wpAny _ _ (seqItems? (.ref l) >>= _) _ _ s
  refine wpAny_bind (wpAny_seqItems hol hdl ?_)
  cases hv : items[i]? with
  | some v =>
    rw [hv] at hm
    obtain ⟨x, hx, hrep⟩ := r.get i hv
    have hx' : xs.toArray[i]? = some x := by simpa using hx
    simp only [Int.toNat_natCast, hx']
    refine wpAny_bind (wpAny_setField ho hd (by simp) (wpAny_pure ?_))
    refine ⟨v, _, hrep, R.set (o' := .iter l (i + 1)) (t := s.toks) hI rfl (Heap.SameBut.update ..) rfl ?_, hm⟩
    exact ⟨_, Heap.get?_update_self _ ho (Obj.isFreed_of_fields (Obj.data_mapFields hd _)), (Obj.cls_mapFields ..).trans hcl, by
      rw [Obj.data_mapFields hd]; simp [rawInt]⟩
  | none =>
    rw [hv] at hm
    have hx' : xs.toArray[i]? = none := by
      have hlen := r.length
      rw [List.getElem?_eq_none_iff] at hv
      simp; (first | lia | omega)
    simp only [Int.toNat_natCast, hx']
    refine wpAny_bind (wpAny_rule (wpAny_bind (wpAny_setField ho hd (by simp) ?_)))
    show wpAny _ _ (newExc (.type "StopIteration") [] >>= _) _ _ _
    refine wpAny_bind ?_
    simp only [newExc, newTuple]
    refine wpAny_bind (wpAny_newObj_type ?_ (by size_fits))
    refine wpAny_bind (m := firstArgMember _ _) (wpAny_of_eq (a := Value.none) (by first | rfl | (simp only [firstArgMember]; rfl)) ?_)
    refine wpAny_newObj_type ?_ (by size_fits)
    simp only [raiseNew]
    refine wpAny_bind (wpAny_handled ?_)
    have hh : ∀ c, (F.A.under c).handled = F.A.handled := fun c => by cases c <;> rfl
    rw [hh, O.hh hc]
    refine wpAny_throw ?_
    have R₁ : Rel P D F ⟨σ.loc, fun b => if b = I then none else σ.hp b⟩ { s with heap := s.heap.update I (Obj.mapFields fun x => x.setIfInBounds 0 Value.none) } :=
      R.change (t := s.toks) (fun b => b = I) (fun b e => e ▸ frI) (fun b ob ne e => (Heap.get?_update_other _ _ (Ne.symm ne)).trans e) fun b ob e => by
        by_cases hb : b = I
        · simp [hb] at e
        · exact .inl ⟨by simpa [hb] using e, hb⟩
    have R₂ := R₁.pushU { cls := .type "tuple", data := .seq #[] }
    have fr := R₂.fresh (heap_size_none _)
    exact ⟨.stop, _, ⟨R₂.pushU _, _, _, _, _, rfl, fr, Heap.get?_push_size _ rfl, rfl, rfl, rfl, .inl rfl⟩, hm⟩
end
end
section
section
variable {P : PC} {D : FD} {F : FX} {σ : St} {s : Shared}

noncomputable def pNextCall (p : EP) : EP := fun Q E σ => p (fun v σ₁ => opNextCall v Q E σ₁) E σ
theorem sim_nextCall {o i : Expr} {sp pos : Pos} {p : EP} (h : SimE P D (.Subscript o i sp) p) (hc : D.calm = true := by rfl) : SimE P D (.Call (.Subscript o i sp) [] [] pos) (pNextCall p) := by
  intro F O σ s Q E R hp
  have e : eval (.Call (.Subscript o i sp) [] [] pos) F.env = (do callWith pos (← eval (.Subscript o i sp) F.env) [] (backTo pos (starEach [] F.env)) (backToKw pos (keywordEach [] F.env))) := rfl
  rw [e]
  refine wpAny_bind (wpAny_mono (h F O σ s _ E R hp) ?_ fun _ _ x => x)
  rintro fu s₁ ⟨v, σ₁, hv, R₁, h₁⟩
  cases v <;> try exact h₁.elim
  rename_i u
  obtain ⟨I, l, k, items, hu, hrest⟩ := id h₁
  have hU : s₁.heap.get? u = some { cls := .type "method-wrapper", data := .fields #[.builtin "list_iterator.__next__", .ref I] } := (R₁.hp u _ hu).1
  have hcall := op_nextCall O hc (.ref u) fu hv σ₁ s₁ Q E R₁ h₁
  have hv' : fu = .ref u := hv
  subst hv'
  unfold callWith
  refine wpAny_bind (wpAny_holding (wpAny_pure ?_))
  refine wpAny_bind (wpAny_standAt ?_)
  refine wpAny_bind (m := keeperOf (.ref u)) ?_
  unfold keeperOf
  refine wpAny_bind (wpAny_load hU ?_)
  simp only [show (Value.type "method-wrapper" != Value.type "method") = true by decide, show (Value.type "method-wrapper" == Value.type "builtin_function_or_method" || Value.type "method-wrapper" == Value.type "method-wrapper") = true by decide, if_true]
  refine wpAny_pure ?_
  exact wpAny_bind (wpAny_mono hcall (fun r s₂ hr => wpAny_bind (wpAny_holding (wpAny_point (wpAny_pure hr)))) fun _ _ x => x)
end
end
section
noncomputable def uncalm (D : FD) : FD := { D with calm := false }
section
variable {P : PC} {D : FD} {F : FX} {σ : St} {s : Shared}

noncomputable def sTry (body orelse handler : SP) (ex₀ : Ex) : SP := fun Q E σ => body (fun fl σ₁ => match fl with
  | .next => orelse Q E σ₁
  | f => Q f σ₁) (fun ex σ₁ => ex = ex₀ ∧ handler Q noX σ₁) σ
/-- what stands behind the word except -/
noncomputable def ClassOf (P : PC) (D : FD) (t : Expr) (c : Value) : Prop := ∀ F, FOk P D F → ∀ σ s (Q : Value → Shared → Prop) E, Rel P D F σ s → Q c s → wpAny (model P.prog P.w) F.A (eval t F.env) Q E s
theorem classOf_glob {x : Str} {pos : Pos} {v : Value} (hx : x ∈ D.globs) (e : nsIn P.K mainGlobals x = some (some v)) (hd : (x == ("__debug__" : Str)) = false := by decide) : ClassOf P D (.Name x pos) v := fun _ O _ _ _ _ R h => glob_fn O R hx e h hd
theorem classOf_bi {x : Str} {pos : Pos} {v : Value} (hx : x ∈ D.globs) (hf : freeName P x) (hv : bootBuiltins x = some v) (hd : (x == ("__debug__" : Str)) = false := by decide) : ClassOf P D (.Name x pos) v := fun _ O _ _ _ _ R h => glob_bi O R hx hf hv h hd

noncomputable def markF (F : FX) (e : Value) : FX := { F with A := F.A.mark (some e) }
theorem FOk.marked (O : FOk P D F) (e : Value) : FOk P (uncalm D) (markF F e) where
  fn := O.fn
  locals := O.locals
  globals := O.globals
  builtins := O.builtins
  loc := O.loc
  cell := O.cell
  cellInj := O.cellInj
  cap := O.cap
  glob := O.glob
  nd := O.nd
  X := O.X
  T := O.T
  kbg := O.kbg
  frames := O.frames
  frs := O.frs
  outsOk := O.outsOk
  Lg := O.Lg
  above := O.above
  depth := O.depth
  units := O.units
  hh := fun h => by cases h
  fnOk := O.fnOk
theorem Rel.marked (R : Rel P D F σ s) (e : Value) : Rel P (uncalm D) (markF F e) σ s := ⟨R.ns, R.cell, R.cap, R.keep, R.outs, R.hp, R.gens, R.os⟩
theorem Rel.unmarked {e : Value} (R : Rel P (uncalm D) (markF F e) σ s) : Rel P D F σ s := ⟨R.ns, R.cell, R.cap, R.keep, R.outs, R.hp, R.gens, R.os⟩

theorem sim_try {body orelse suite : List Stmt} {b₀ : Stmt} {t : Expr} {pos hpos : Pos} {pb po ph : SP} {ex₀ : Ex} {c : Value} (hb : SimSs P D body pb) (ho : SimSs P D orelse po) (hs : SimSs P (uncalm D) (b₀ :: suite) ph)
    (hT : ClassOf P (uncalm D) t c) (hx : exmOne P.K (exCls P ex₀) c = some true) (hfn : D.fn = true := by rfl) : SimS P D (.Try body [.ExceptHandler (some t) none (b₀ :: suite) hpos] orelse [] pos) (sTry pb po ph ex₀) := by
  intro F O σ s Q E R hp
  refine wpAny_Try_except (wpAny_mono (hb F O σ s _ _ R hp) ?_ ?_)
  · rintro f s₁ ⟨fl, σ₁, hf, R₁, h₁⟩
    cases fl with
    | next => subst hf; exact ho F O σ₁ s₁ Q E R₁ h₁
    | cont => subst hf; exact ⟨.cont, σ₁, rfl, R₁, h₁⟩
    | brk => subst hf; exact ⟨.brk, σ₁, rfl, R₁, h₁⟩
    | ret v => obtain ⟨w, rfl, hw⟩ := hf; exact ⟨.ret v, σ₁, ⟨w, rfl, hw⟩, R₁, h₁⟩
  · rintro e s₁ ⟨ex, σ₁, x, rfl, h₁⟩
    refine note_sim O (O.fnOk hfn) rfl x fun h' x' => ?_
    refine flight_sim O x' fun h'' x'' => ?_
    obtain ⟨R₂, a, oe, vs, a0, T, oT, ts, rfl, ua, ha, hcls, hd, h0, hv1, hTa, uT, hT', hdT, h3⟩ := id x''
    refine wpAny_handleBy_cons (codeAny_handlers_test ?_) (by intro q; cases q)
    refine hT (markF F (.ref a)) (O.marked _) σ₁ _ _ _ (R₂.marked _) ?_
    have hk : ∀ b o, F.kb.get? b = some o → h''.get? b = some o := fun b o e => R₂.keep b o (O.kbg b o e)
    have LT : Looks (model P.prog P.w) h'' (typeOf (.ref a)) (exCls P ex) := hcls ▸ (Looks.ld ha).andThen .now
    refine (exm_one (O.X.keeps hk) LT hx).here ?_
    refine codeAny_handlers_suite ?_
    refine flight_sim O x'' fun h₃ x₃ => ?_
    refine wpAny_mono (hs (markF F (.ref a)) (O.marked _) σ₁ _ Q noX (x₃.rel.marked _) h₁) ?_ fun _ _ z => (noX_elim z).elim
    rintro f s₄ ⟨fl, σ₄, hf, R₄, h₄⟩
    exact ⟨fl, σ₄, hf, R₄.unmarked, h₄⟩
end
end
section
section
variable {P : PC} {D : FD} {F : FX} {σ : St} {s : Shared}

/-- an expression whose value is of no account -/
noncomputable def SimV (P : PC) (D : FD) (e : Expr) (p : SP) : Prop := ∀ F, FOk P D F → ∀ σ s Q E, Rel P D F σ s → p Q E σ → wpAny (model P.prog P.w) F.A (eval e F.env) (fun _ s' => ∃ σ', Rel P D F σ' s' ∧ Q .next σ') (RX P D F E) s
noncomputable def SimVs (P : PC) (D : FD) (es : List Expr) (p : SP) : Prop := ∀ F, FOk P D F → ∀ pos σ s Q E, Rel P D F σ s → p Q E σ → wpAny (model P.prog P.w) F.A (spliced (backTo pos (starEach es F.env))) (fun us s' => us.length = es.length ∧ ∃ σ', Rel P D F σ' s' ∧ Q .next σ') (RX P D F E) s
noncomputable def vNil : SP := fun Q _ σ => Q .next σ
noncomputable def vCons (p q : SP) : SP := fun Q E σ => p (fun _ σ' => q Q E σ') E σ
theorem sim_vnil : SimVs P D [] vNil := fun F _ pos σ s Q E R h => wpAny_items_nil (⟨rfl, σ, R, h⟩ : (([] : List Value).length = ([] : List Expr).length) ∧ ∃ σ', Rel P D F σ' s ∧ Q .next σ')
theorem sim_vcons {e : Expr} {es : List Expr} {p q : SP} (h : SimV P D e p) (h' : SimVs P D es q) (he : ∀ env, starEach (e :: es) env = (false, eval e env) :: starEach es env := by intro _; rfl) : SimVs P D (e :: es) (vCons p q) := by
  intro F O pos σ s Q E R hp
  refine wpAny_items_cons (wpAny_mono (h F O σ s _ E R hp) ?_ fun _ _ x => x) (he _)
  rintro u s₁ ⟨σ₁, R₁, h₁⟩
  refine wpAny_mono (h' F O pos σ₁ s₁ _ E R₁ h₁) ?_ fun _ _ x => x
  rintro us s₂ ⟨hl, σ₂, R₂, h₂⟩
  exact ⟨by simp [hl], σ₂, R₂, h₂⟩
noncomputable def vOf (p : EP) : SP := fun Q E σ => p (fun _ σ' => Q .next σ') E σ
theorem sim_vof {e : Expr} {p : EP} (h : SimE P D e p) : SimV P D e (vOf p) := by
  intro F O σ s Q E R hp
  refine wpAny_mono (h F O σ s _ E R hp) ?_ fun _ _ x => x
  rintro u s₁ ⟨v, σ₁, _, R₁, h₁⟩
  exact ⟨σ₁, R₁, h₁⟩
theorem sim_vfstr {x : Str} {k : Nat} {pos pos' : Pos} : SimV P D (.JoinedStr [.Constant (.str x) k pos] pos') vNil := fun F O σ s Q E R hp => wpAny_JoinedStr_one (Constant_str ⟨σ, R.toks, hp⟩)

/-- raise X(..), X a class of the text's own -/
noncomputable def sRaise (ex : Ex) (p : SP) : SP := fun _ E σ => p (fun _ σ' => E ex σ') E σ
theorem x_made {ex : Ex} {σ : St} {s : Shared} {h' : Heap} {e : Addr} {us : List Value} (R : Rel P D F σ s) (m : Heap.MadeExcOf s.heap h' e (exCls P ex) us) : XAt P D F ex σ (.ref e) { s with heap := h' } := by
  obtain ⟨t, h1, h2, h3⟩ := m.there
  exact ⟨R.ext (t := s.toks) m.keeps, e, _, _, _, rfl, R.fresh m.new, h1, rfl, rfl, rfl, .inl rfl⟩
theorem sim_raiseOwn {x : Str} {np cpos pos : Pos} {e₀ : Expr} {rest : List Expr} {p : SP} {B Bn newId nid initId inN : String} {bm bmN : List Value} (hx : x ∈ D.globs) (e : nsIn P.K mainGlobals x = some (some (.ref P.cE))) (q : excIn P.K P.cE bm newId = true)
    (Fn : ExcBaseFacts Bn newId inN bmN) (hBn : bm.contains (.type Bn) = true) (FB : ExcBaseFacts B nid initId bm) (ha : SimVs P D (e₀ :: rest) p) (hlen : (e₀ :: rest).length ≤ 100 := by decide)
    (he : ∀ env, starEach (e₀ :: rest) env = (false, eval e₀ env) :: starEach rest env := by intro _; rfl) (hplain : ∀ env, (backTo cpos (starEach rest env)).any (·.1) = false := by intro _; rfl) (hc : D.calm = true := by rfl) (hd : (x == ("__debug__" : Str)) = false := by decide) :
    SimS P D (.Raise (some (.Call (.Name x np) (e₀ :: rest) [] cpos)) none pos) (sRaise .cycle p) := by
  intro F O σ s Q E R hp
  have hO := own_of_in O.X (topRead_of O.T) e q
  obtain ⟨tl, N, nm, qn, bs, hdct, sn, sub, ab, col, dd, k0, k1, k2, k3, k5, mN, hC, hN, hni, T⟩ := hO.obj
  refine wpAny_Raise_call_subU (C := P.cE) (nm := nm) (q := qn) (N := N) (bs := bs) (bm := tl) (hdct := hdct) (sn := sn) (sub := sub) (ab := ab) (col := col) (dd := dd) (k0 := k0) (k1 := k1) (k2 := k2) (k3 := k3) (k5 := k5)
    Fn hBn FB (mN := mN) (T.hasType FB.hasBase) (O.hh hc) (by rw [he]; show (false || (backTo cpos (starEach rest F.env)).any (·.1)) = false; rw [hplain]; rfl) hni (glob_fn O R hx e ⟨rfl, ?_⟩ hd)
  have h := ha F O cpos σ s _ E R hp
  rw [he] at h ⊢
  refine Calls.evalArgs_plain (wpAny_mono h ?_ fun _ _ y => y)
  rintro us s₂ ⟨hl, σ₂, R₂, h₂⟩
  have hk : ∀ b o, F.kb.get? b = some o → s₂.heap.get? b = some o := fun b o e => R₂.keep b o (O.kbg b o e)
  exact ⟨rfl, by rw [sizeLine_eq, hl]; (first | lia | omega), hk _ _ hC, hN.keeps hk, T.keeps hk, fun h' e' hm => ⟨.cycle, σ₂, x_made R₂ hm, h₂⟩⟩
end
end
section
section
variable {P : PC} {D : FD} {F : FX} {σ : St} {s : Shared}

theorem swapped_any2 {x y : Str} {px py : Pos} {k k' : Nat} {tp vp : Pos} {v₁ v₂ : Expr} (env : Env) (h3 : [v₁, v₂].all (constantsAlone 8) = false) :
    swappedStores [.Tuple [.Name x px, .Name y py] k tp] (.Tuple [v₁, v₂] k' vp) env = pure none ∨ swappedStores [.Tuple [.Name x px, .Name y py] k tp] (.Tuple [v₁, v₂] k' vp) env = pure (some [x, y]) := by
  unfold swappedStores
  simp only [List.length_cons, List.length_nil, List.head?_cons, Option.map_some, Option.getD_some, Expr.pos, List.filterMap_cons, List.filterMap_nil, h3]
  split
  · exact .inl rfl
  · split
    · exact .inl rfl
    · by_cases c1 : (env.kindOf x == some NameKind.local && px.line == px.line) = true <;> by_cases c2 : (env.kindOf y == some NameKind.local && py.line == px.line) = true
      · simp only [c1, c2, if_true]
        split
        · exact .inl rfl
        · split
          · exact .inl rfl
          · exact .inr rfl
      · simp only [c1, c2, if_true]
        exact .inl rfl
      · simp only [c1, c2, if_true]
        exact .inl rfl
      · simp only [c1, c2]
        exact .inl rfl
theorem swapped_any3 {x y z : Str} {px py pz : Pos} {k k' : Nat} {tp vp : Pos} {v₁ v₂ v₃ : Expr} (env : Env) (h3 : [v₁, v₂, v₃].all (constantsAlone 8) = false) :
    swappedStores [.Tuple [.Name x px, .Name y py, .Name z pz] k tp] (.Tuple [v₁, v₂, v₃] k' vp) env = pure none ∨ swappedStores [.Tuple [.Name x px, .Name y py, .Name z pz] k tp] (.Tuple [v₁, v₂, v₃] k' vp) env = pure (some [x, y, z]) := by
  unfold swappedStores
  simp only [List.length_cons, List.length_nil, List.head?_cons, Option.map_some, Option.getD_some, Expr.pos, List.filterMap_cons, List.filterMap_nil, h3]
  split
  · exact .inl rfl
  · split
    · exact .inl rfl
    · by_cases c1 : (env.kindOf x == some NameKind.local && px.line == px.line) = true <;> by_cases c2 : (env.kindOf y == some NameKind.local && py.line == px.line) = true <;> by_cases c3 : (env.kindOf z == some NameKind.local && pz.line == px.line) = true
      · simp only [c1, c2, c3, if_true]
        split
        · exact .inl rfl
        · split
          · exact .inl rfl
          · exact .inr rfl
      all_goals
        simp only [c1, c2, c3, if_true]
        exact .inl rfl

/-- x, y = (e1, e2) -/
noncomputable def sPair (q : LP) (is : List Nat) : SP := fun Q E σ => q (fun vs σ' => vs.length = is.length ∧ ∀ a, σ'.hp a = none → Q .next ⟨setvs σ'.loc is vs, upd σ'.hp a (.tup vs)⟩) E σ
theorem setv_comm {l : Nat → Option AV} {i j : Nat} {v w : AV} (h : i ≠ j) : setv (setv l i v) j w = setv (setv l j w) i v := by
  funext k
  unfold setv
  by_cases h1 : k = i <;> by_cases h2 : k = j
  · exact absurd (h1.symm.trans h2) h
  · subst h1; simp [h2]
  · subst h2; simp [h1]
  · simp [h1, h2]
theorem setvs_rev2 {i j : Nat} {l : Nat → Option AV} (h : i ≠ j) : ∀ (vs : List AV), vs.length = 2 → setvs l [j, i] vs.reverse = setvs l [i, j] vs
  | [v, w], _ => by show setv (setv l j w) i v = setv (setv l i v) j w; rw [setv_comm (Ne.symm h)]
  | [], h => by simp at h
  | [_], h => by simp at h
  | _ :: _ :: _ :: _, h => by simp at h
theorem setvs_rev3 {i j k : Nat} {l : Nat → Option AV} (h : i ≠ j) (h' : i ≠ k) (h'' : j ≠ k) : ∀ (vs : List AV), vs.length = 3 → setvs l [k, j, i] vs.reverse = setvs l [i, j, k] vs
  | [u, v, w], _ => by
    show setv (setv (setv l k w) j v) i u = setv (setv (setv l i u) j v) k w
    rw [setv_comm (Ne.symm h''), setv_comm (Ne.symm h'), setv_comm (Ne.symm h)]
  | [], h => by simp at h
  | [_], h => by simp at h
  | [_, _], h => by simp at h
  | _ :: _ :: _ :: _ :: _, h => by simp at h

theorem pair_core {ts : List Expr} {vs : List Expr} {xs : List Str} {is : List Nat} {k k' : Nat} {tp vp pos : Pos} {q : LP} (hq : SimL P D vs q) (hlen : xs.length = is.length)
    (hnm : ∀ (j : Nat) (x : Str) (i : Nat), xs[j]? = some x → is[j]? = some i → ∃ k, D.vars[i]? = some (x, k) ∧ notCap k = true) (hsm : is.length ≤ 10)
    (hrev : ∀ (l : Nat → Option AV) (as : List AV), as.length = is.length → setvs l is.reverse as.reverse = setvs l is as)
    (hsw : ∀ env, swappedStores [.Tuple ts k tp] (.Tuple vs k' vp) env = pure none ∨ swappedStores [.Tuple ts k tp] (.Tuple vs k' vp) env = pure (some xs))
    (hT : SimA P D (.Tuple ts k tp) (aTuple is)) (he : ∀ env, (assignEach [.Tuple ts k tp] env).map (·.2) = [assign (.Tuple ts k tp) env]) (hc : D.calm = true) :
    SimS P D (.Assign [.Tuple ts k tp] (.Tuple vs k' vp) pos) (sPair q is) := by
  intro F O σ s Q E R hp
  rw [exec_Assign_arm]
  refine wpAny_bind (wpAny_standAt (wpAny_bind (wpAny_pure (a := false) ?_)))
  rw [if_neg (by decide)]
  refine wpAny_bind (wpAny_Tuple_spliced (wpAny_mono (hq F O vp σ s _ E R hp) ?_ fun _ _ x => x))
  rintro us s₁ ⟨as, σ₁, ha, R₁, hz, h₁⟩
  have hl' := ha.length
  refine ⟨by rw [sizeLine_eq]; (first | lia | omega), ?_⟩
  have R₂ := R₁.push { cls := .type "tuple", data := .seq us.toArray } (.tup as) rfl ⟨us, 0, Heap.get?_push_size _ rfl, ha, by (first | lia | omega)⟩
  rcases hsw F.env with hw | hw
  · rw [hw]
    refine wpAny_bind (wpAny_pure ?_)
    show wpAny _ _ (do assignAll (.ref s₁.heap.objs.size) ((assignEach [.Tuple ts k tp] F.env).map (·.2)); pure Flow.next) _ _ _
    rw [he]
    refine wpAny_bind ?_
    refine wpAny_mono (hT F O (.ref s₁.heap.objs.size) (.ref s₁.heap.objs.size) rfl _ _ Q E R₂ ?_) ?_ fun _ _ x => x
    · exact ⟨as, by simp [upd], hz, h₁ _ (R₁.fresh (heap_size_none _)).2⟩
    · rintro _ s₄ hh
      exact wpAny_pure (flow_next hh)
  · rw [hw]
    refine wpAny_bind (wpAny_pure ?_)
    refine wpAny_bind (wpAny_rule (wpAny_bind ?_))
    have hun := wpAny_unpackItems_tuple (prog := P.prog) (w := P.w) (A := F.A) (E := RX P D F E) (s := { s₁ with heap := s₁.heap.push { cls := .type "tuple", data := .seq us.toArray } }) (t := s₁.heap.objs.size) (items := us.toArray)
      (Q := fun items s' => wpAny (model P.prog P.w) F.A (do assignInOrder (xs.reverse.map fun n => bindName F.env n) items.reverse; pure Flow.next) (RF P D F Q) (RX P D F E) s') (O.hh hc) ⟨_, Heap.get?_push_size _ rfl, rfl, 0, rfl⟩ ?_
    · have e : us.toArray.size = xs.length := by rw [List.size_toArray]; (first | lia | omega)
      rw [e] at hun
      exact hun
    · intro h' hx'
      have R₃ := R₂.ext (h' := h') (t := s₁.toks) (fun b o e => hx' b o (fun q => by rw [q, heap_size_none] at e; cases e) e)
      have hq' := h₁ _ (R₁.fresh (heap_size_none _)).2
      rw [← hrev σ₁.loc as hz] at hq'
      refine wpAny_bind (wpAny_mono (binds_sim O (xs := xs.reverse) (is := is.reverse) (by simpa using hlen) ?_ (ha.reverse) (by rw [List.length_reverse, List.length_reverse]; exact hz) (Q := Q) (E := E) R₃ hq') ?_ fun _ _ x => x)
      · intro n z m h1 h2
        have hn : n < xs.length := by have := (List.getElem?_eq_some_iff.mp h1).1; simpa using this
        rw [List.getElem?_reverse (by simpa using hn)] at h1
        rw [List.getElem?_reverse (by (first | lia | omega))] at h2
        exact hnm _ z m h1 (by rw [hlen]; exact h2)
      · rintro _ s₄ hh
        exact wpAny_pure (flow_next hh)
theorem sim_pair2 {x y : Str} {px py : Pos} {i j k k' : Nat} {tp vp pos : Pos} {v₁ v₂ : Expr} {q : LP} {kx ky : VK} (hq : SimL P D [v₁, v₂] q) (hx : D.vars[i]? = some (x, kx)) (hy : D.vars[j]? = some (y, ky)) (hij : i ≠ j := by decide)
    (h1 : notCap kx = true := by rfl) (h2 : notCap ky = true := by rfl) (h3 : [v₁, v₂].all (constantsAlone 8) = false := by rfl) (hc : D.calm = true := by rfl) :
    SimS P D (.Assign [.Tuple [.Name x px, .Name y py] k tp] (.Tuple [v₁, v₂] k' vp) pos) (sPair q [i, j]) :=
  pair_core (xs := [x, y]) hq rfl (fun n z m e1 e2 => by
    match n with
    | 0 => simp at e1 e2; subst e1 e2; exact ⟨kx, hx, h1⟩
    | 1 => simp at e1 e2; subst e1 e2; exact ⟨ky, hy, h2⟩
    | n + 2 => simp at e1) (by simp) (fun l as h => setvs_rev2 hij as h) (fun env => swapped_any2 env h3) (sim_aTuple ⟨⟨kx, hx, h1⟩, ⟨ky, hy, h2⟩, trivial⟩ hc) (fun _ => rfl) hc
theorem sim_pair3 {x y z : Str} {px py pz : Pos} {i j l k k' : Nat} {tp vp pos : Pos} {v₁ v₂ v₃ : Expr} {q : LP} {kx ky kz : VK} (hq : SimL P D [v₁, v₂, v₃] q) (hx : D.vars[i]? = some (x, kx)) (hy : D.vars[j]? = some (y, ky)) (hz : D.vars[l]? = some (z, kz)) (hij : i ≠ j := by decide) (hil : i ≠ l := by decide) (hjl : j ≠ l := by decide)
    (h1 : notCap kx = true := by rfl) (h2 : notCap ky = true := by rfl) (h2' : notCap kz = true := by rfl) (h3 : [v₁, v₂, v₃].all (constantsAlone 8) = false := by rfl) (hc : D.calm = true := by rfl) :
    SimS P D (.Assign [.Tuple [.Name x px, .Name y py, .Name z pz] k tp] (.Tuple [v₁, v₂, v₃] k' vp) pos) (sPair q [i, j, l]) :=
  pair_core (xs := [x, y, z]) hq rfl (fun n w m e1 e2 => by
    match n with
    | 0 => simp at e1 e2; subst e1 e2; exact ⟨kx, hx, h1⟩
    | 1 => simp at e1 e2; subst e1 e2; exact ⟨ky, hy, h2⟩
    | 2 => simp at e1 e2; subst e1 e2; exact ⟨kz, hz, h2'⟩
    | n + 3 => simp at e1) (by simp) (fun l as h => setvs_rev3 hij hil hjl as h) (fun env => swapped_any3 env h3) (sim_aTuple ⟨⟨kx, hx, h1⟩, ⟨ky, hy, h2⟩, ⟨kz, hz, h2'⟩, trivial⟩ hc) (fun _ => rfl) hc
end
end
section
section
variable {P : PC} {D : FD} {F : FX} {σ : St} {s : Shared}

/-- list(range(..)) -/
noncomputable def pListRange (p : LP) : EP := fun Q E σ => p (fun vs σ₁ => ∃ ns, rangeOf vs = some ns ∧ ns.length ≤ 1000000 ∧ ∀ a, σ₁.hp a = none → Q (.ref a) ⟨σ₁.loc, upd σ₁.hp a (.list (intsA ns))⟩) E σ
end
end
section
noncomputable def fdAt? (K : Frag) (f : Addr) : Option FuncData := match K.lookup f with
  | some ⟨_, _, .func fd, _⟩ => some fd
  | _ => none
noncomputable def bodyOf (fd : FuncData) : List Stmt := match fd.body with
  | .stmts b => b
  | _ => []
noncomputable def isStmts (fd : FuncData) : Bool := match fd.body with
  | .stmts _ => true
  | _ => false
noncomputable def fnOkB (K : Frag) (fd : FuncData) (D : FD) : Bool :=
  isStmts fd && fd.closure.isEmpty && fd.globals == mainGlobals && fd.builtins == builtinsNs && codeIn K fd.code fd.qualname && decide (fd.scope.kind = .function) && !fd.scope.isCoroutine && !fd.scope.isGenerator &&
  (D.vars.all fun x => match x.2 with
    | .loc => fd.scope.names.lookup x.1 == some .local
    | .cell => fd.scope.names.lookup x.1 == some .cell
    | .cap => false) && (D.globs.all fun x => fd.scope.names.lookup x == some .globalImplicit) && decide ((D.vars.map (·.1)).Nodup) && D.fn
theorem FnOk.of {P : PC} {f : Addr} {fd : FuncData} {D : FD} (hl : fdAt? P.K f = some fd) (h : fnOkB P.K fd D = true) : FnOk P f fd (bodyOf fd) D := by
  unfold fnOkB at h
  simp only [Bool.and_eq_true, List.all_eq_true, decide_eq_true_eq, Bool.not_eq_true'] at h
  obtain ⟨⟨⟨⟨⟨⟨⟨⟨⟨⟨⟨h1, h2⟩, h3⟩, h4⟩, h5⟩, h6⟩, h7⟩, h8⟩, h9⟩, h10⟩, h11⟩, h12⟩ := h
  have hb : fd.body = .stmts (bodyOf fd) := by
    unfold isStmts at h1
    unfold bodyOf
    split at h1
    · rename_i b e; rw [e]
    · cases h1
  refine ⟨hb, by simpa using h2, by simpa using h3, by simpa using h4, ?_, h5, h6, h7, h8, fun x hx => ?_, fun x hx => ?_, fun x hx => ?_, fun x hx => by simpa using h10 x hx, h11, h12⟩
  · unfold fdAt? at hl
    split at hl
    · rename_i oc od fd' sl e; cases hl; exact ⟨oc, od, sl, e⟩
    · cases hl
  · have := h9 _ hx; simpa using this
  · have := h9 _ hx; simpa using this
  · have := h9 _ hx; simp at this
theorem fsim_of {P : PC} {f : Addr} {fd : FuncData} {D : FD} {n : Nat} {pb : SP} (hl : fdAt? P.K f = some fd) (h : fnOkB P.K fd D = true) (hS : SimSs P D (bodyOf fd) pb) (hn : n ≤ D.vars.length)
    (hb : ∀ (us : List Value) (s : Shared), us.length = n → P.K.In s.heap → BindsTo s fd ⟨us, []⟩ ((D.vars.map (·.1)).zip us)) : FSim P f D.depth (fpOf n pb) := fsim_plain (FnOk.of hl h) hS hn hb
end
section
noncomputable def freeNames : List Str := ["min", "max", "len", "sum", "abs", "sorted", "tuple", "list", "set", "range", "iter", "StopIteration", "ValueError", "bool"]
section
variable {P : PC} {D : FD} {F : FX} {σ : St} {s : Shared}
noncomputable def pDict0 : EP := fun Q _ σ => ∀ a ep, σ.hp a = none → Q (.ref a) ⟨σ.loc, upd σ.hp a (.dict [] ep)⟩
theorem sim_dict0 {pos : Pos} : SimE P D (.Dict [] [] pos) pDict0 := by
  intro F O σ s Q E R hp
  rw [eval_Dict_empty]
  refine wpAny_bind (wpAny_standAt ?_)
  refine wpAny_newObj_type ?_
  have fr := R.fresh (heap_size_none s.heap)
  have hlo : (s.heap.objs.size == sysModules) = false := by
    obtain ⟨o, _, _, e, _⟩ := O.T.g
    have h1 := Heap.lt_size e
    obtain ⟨m, ⟨oL, _, _, eL, _⟩, _⟩ := R.ns
    have h2 := Heap.lt_size eL
    have h3 := O.above
    have h4 : 0 < F.kb.objs.size := Nat.lt_of_le_of_lt (Nat.zero_le _) h1
    have h5 : 1 < s.heap.objs.size := Nat.lt_of_le_of_lt (Nat.le_trans h4 h3) h2
    have : s.heap.objs.size ≠ sysModules := fun q => absurd h5 (by rw [q]; exact Nat.lt_irrefl 1)
    simpa using this
  refine ⟨.ref _, _, rfl, R.push _ (.dict [] 0) rfl ⟨[], ⟨_, #[], Heap.get?_push_size _ rfl, ⟨rfl, rfl, rfl⟩, rfl, ?_, ?_, ?_⟩, ⟨rfl, trivial⟩, hlo, Nat.zero_le _⟩, hp _ 0 fr.2⟩
  · first | (intro e he; simp at he) | exact KeysOf.empty | trivial | simp [KeysOf]
  · first | exact .nil | trivial | rfl
  · simp
end
end
section
theorem bind_tuple {prog : Program} {w : World} {A : Around} {E : Value → Shared → Prop} {s : Shared} {Q : List (Str × Value) → Shared → Prop} {rest : List Value} {f : Value → List (Str × Value)} {m : Sem (List (Str × Value))} (e : m = (newTuple rest >>= fun t => pure (f t))) (hl : rest.length ≤ 1000000)
    (h : Q (f (.ref s.heap.objs.size)) { s with heap := s.heap.push { cls := .type "tuple", data := .seq rest.toArray } }) : wpAny (model prog w) A m Q E s := by
  rw [e]
  unfold newTuple
  exact wpAny_bind (wpAny_newObj_type (wpAny_pure h) (by show rest.toArray.size ≤ sizeLine; rw [List.size_toArray, sizeLine_eq]; (first | lia | omega)))
theorem fsim_ofS {P : PC} {f : Addr} {fd : FuncData} {D : FD} {k : Nat} {pb : SP} (hl : fdAt? P.K f = some fd) (h : fnOkB P.K fd D = true) (hS : SimSs P D (bodyOf fd) pb) (hn : k + 1 ≤ D.vars.length)
    (hb : ∀ (us : List Value) (s : Shared) (A : Around) (Q : List (Str × Value) → Shared → Prop) (E : Value → Shared → Prop), k ≤ us.length → us.length ≤ 1000000 → P.K.In s.heap →
      Q ((D.vars.map (·.1)).zip (us.take k ++ [.ref s.heap.objs.size])) { s with heap := s.heap.push { cls := .type "tuple", data := .seq (us.drop k).toArray } } → wpAny (model P.prog P.w) A (bindArgs fd ⟨us, []⟩) Q E s) : FSim P f D.depth (fpStar k pb) := fsim_star (FnOk.of hl h) hS hn hb
/-- a function called without its last parameter, whose default is None -/
noncomputable def fpDflt (n : Nat) (pb : SP) : FP := fun vs Q E hp => vs.length = n ∧ pb (fun fl σ => Q (retV fl) σ.hp) (fun ex σ => E ex σ.hp) ⟨fun i => (vs ++ [.none])[i]?, hp⟩
theorem fsim_dflt {P : PC} {f : Addr} {fd : FuncData} {D : FD} {n : Nat} {pb : SP} (hl : fdAt? P.K f = some fd) (h : fnOkB P.K fd D = true) (hS : SimSs P D (bodyOf fd) pb) (hn : n + 1 ≤ D.vars.length)
    (hb : ∀ (us : List Value) (s : Shared), us.length = n → P.K.In s.heap → BindsTo s fd ⟨us, []⟩ ((D.vars.map (·.1)).zip (us ++ [.none]))) : FSim P f D.depth (fpDflt n pb) := by
  have hF := FnOk.of hl h
  rintro D' F' O' A hA hd hu hh hdep σ s vs us Q E R hr ⟨hl, hp⟩
  obtain ⟨oc, od, sl, hlk⟩ := hF.look
  have X := O'.kin R
  have hrl : A.depth < recursionLimit := by have := O'.depth; unfold recursionLimit; (first | lia | omega)
  refine codeAny_call_function hrl (X _ _ hlk) rfl hF.co hF.gen hF.body (codeRec_of X hF.code) ?_
  refine hb us s (by rw [← hr.length]; exact hl) X _ _ _ _ ?_
  exact enter_sim hF hS O' hA hd hu (fun _ => hh) hdep (hr.append (l' := [.none]) (vs' := [.none]) ⟨rfl, trivial⟩) (by rw [List.length_append]; simp; (first | lia | omega)) R hp
end
section
theorem entry_sim {P : PC} {f : Addr} {fd : FuncData} {D : FD} {pb : SP} {l : Addr} {vs : List Value} {ns : List Int} {s : Shared} (hl : fdAt? P.K f = some fd) (h : fnOkB P.K fd D = true) (hS : SimSs P D (bodyOf fd) pb) (hn : 1 ≤ D.vars.length)
    (hb : BindsTo s fd ⟨[.ref l], []⟩ ((D.vars.map (·.1)).zip [.ref l])) (X : P.K.In s.heap) (T : Top P.p P.loose P.mean P.mg P.mb s.heap) (hg : s.gens = #[]) (hL : s.heap.IsList l vs.toArray) (hI : IntsAre vs ns) (hz : ns.length ≤ 1000000) (hd : D.depth ≤ 20) {Q : AV → Prop}
    (hp : pb (fun fl _ => Q (retV fl)) noX ⟨fun i => [AV.ref l][i]?, fun b => if b = l then some (.flist (intsA ns)) else none⟩) :
    codeAny (model P.prog P.w) callerA (.call (.ref f) ⟨[.ref l], []⟩) (fun r s' => ∃ v av, r = .ok (.ret v) ∧ av.rep v ∧ Q av ∧ (∀ b o, s.heap.get? b = some o → s'.heap.get? b = some o) ∧ s'.gens = #[] ∧ s'.os = s.os) s := by
  have hF := FnOk.of hl h
  obtain ⟨oc, od, sl, hlk⟩ := hF.look
  have hm0 : claimMargin = 300 := rfl
  have hrl : callerA.depth < recursionLimit := by decide +kernel
  refine codeAny_call_function hrl (X _ _ hlk) rfl hF.co hF.gen hF.body (codeRec_of X hF.code) ?_
  refine hb _ _ _ _ ?_
  rw [hF.clo]
  have hkeys := zip_keys (us := [Value.ref l]) hF.nd
  have kinds : ∀ x ∈ D.vars.map (·.1), fd.scope.names.lookup x = some .local ∨ fd.scope.names.lookup x = some .cell := fun x hx => by
    obtain ⟨⟨y, k⟩, hy, rfl⟩ := List.mem_map.mp hx
    cases k with
    | loc => exact .inl (hF.loc y hy)
    | cell => exact .inr (hF.cell y hy)
    | cap => exact absurd hy (hF.cap y)
  refine wpAny_newFunctionEnv_cells hF.kind (fun x hx => ?_) ?_
  · rcases kinds x.1 (hkeys.2 _ (List.mem_map_of_mem hx)) with h | h
    · exact .inl h
    · exact .inr ⟨h, cells_some _ _ _ h⟩
  rintro env rfl s' ⟨⟨⟨h', tk, rfl⟩, hns, hk, hfr⟩, hcell, hap, hab⟩
  refine ⟨T.nolimit.keeps hk, codeAny_func ?_⟩
  have hr : Reps [AV.ref l] [Value.ref l] := ⟨rfl, trivial⟩
  have gNone : ∀ b, s.heap.objs.size ≤ b → s.heap.get? b = none := fun b hb => by
    cases q : s.heap.get? b with
    | none => rfl
    | some o => exact absurd (Heap.lt_size q) (Nat.not_lt.mpr hb)
  have cellAt : ∀ x, (x, VK.cell) ∈ D.vars → ∃ c, (cellsFrom (s.heap.objs.size + 1) fd.scope.names []).lookup x = some c ∧ s.heap.objs.size < c := fun x hx => by
    have := cells_some (x := x) fd.scope.names (s.heap.objs.size + 1) [] (hF.cell x hx)
    obtain ⟨c, hc⟩ := Option.isSome_iff_exists.mp this
    exact ⟨c, hc, hab x c (mem_of_lookup hc)⟩
  let env := newEnv fd.scope s.heap.objs.size fd.globals (cellsFrom (s.heap.objs.size + 1) fd.scope.names []) (fd.qualname ++ ".<locals>.") (some f) fd.code none fd.builtins
  let F : FX := { A := callerA.deeper env, kb := s.heap, fenv := env, outer := [], outs := [], g := s.heap, L := s.heap.objs.size, env := env, os := s.os }
  have O : FOk P D F := {
    fn := hF.kind
    locals := rfl
    globals := hF.glob
    builtins := hF.blt
    loc := hF.loc
    cell := fun x hx => by
      obtain ⟨c, hc, hlt⟩ := cellAt x hx
      exact ⟨hF.cell x hx, c, hc, Nat.ne_of_gt hlt, gNone c (Nat.le_of_lt hlt), by simp [F]⟩
    cellInj := fun x y c hx hy hcx hcy => pairwise_inj hap (mem_of_lookup hcx) (mem_of_lookup hcy)
    cap := fun x hx => absurd hx (hF.cap x)
    glob := hF.globs
    nd := hF.nd
    X := X
    T := T
    kbg := fun b o e => e
    frames := Around.frames_deeper rfl
    frs := fun e he => by
      rcases List.mem_cons.mp he with rfl | he
      · exact ⟨by show fd.scope.kind ≠ .module; rw [hF.kind]; decide, s.heap.objs.size, rfl, .inl rfl⟩
      · cases he
    outsOk := fun q hq => by cases hq
    Lg := gNone _ (Nat.le_refl _)
    above := Nat.le_refl _
    depth := by show 1 + claimMargin + 1 + 20 * D.depth ≤ 900; (first | lia | omega)
    units := by show 4 + 3 + 100 * D.depth ≤ 9000; (first | lia | omega)
    hh := fun _ => rfl
    fnOk := fun _ => ⟨rfl, rfl⟩ }
  have R : Rel P D F ⟨fun i => [AV.ref l][i]?, fun b => if b = l then some (.flist (intsA ns)) else none⟩ { s with heap := h', toks := tk } := {
    ns := ⟨_, hns, fun i x v hi hv => by
      obtain ⟨u, hu', hrep⟩ := hr.get i hv
      exact ⟨u, bindL_reverse (hF.loc x (List.mem_of_getElem? hi)) hkeys.1 (zip_mem i (by rw [List.getElem?_map, hi]; rfl) hu') _, hrep⟩⟩
    cell := fun i x hi c hc => by
      have hlt := hab x c (mem_of_lookup hc)
      have hne : c ≠ l := fun e => by
        obtain ⟨o, ho, _⟩ := hL
        have := Heap.lt_size ho
        rw [← e] at this
        exact absurd this (Nat.not_lt.mpr (Nat.le_of_lt hlt))
      refine ⟨by simp [hne], _, hcell x c hc, fun v hv => ?_⟩
      obtain ⟨u, hu', hrep⟩ := hr.get i hv
      exact ⟨u, bindC_reverse (by show fd.scope.names.lookup x ≠ _; rw [hF.cell x (List.mem_of_getElem? hi)]; decide) hkeys.1 (zip_mem i (by rw [List.getElem?_map, hi]; rfl) hu') _, hrep⟩
    cap := fun i x v hi _ => absurd (List.mem_of_getElem? hi) (hF.cap x)
    keep := fun b o e => hk b o e
    outs := fun q hq => by cases hq
    hp := fun a o e => by
      by_cases ha : a = l
      · subst ha
        have : o = .flist (intsA ns) := by simpa using e.symm
        subst this
        obtain ⟨ol, hol, r⟩ := id hL
        exact ⟨⟨vs, ⟨ol, hk _ _ hol, r⟩, intsA_of hI, by rw [List.length_map]; exact hz⟩, fun _ => by show (s.heap.get? a).isSome = true; rw [hol]; rfl, fun hf => by cases hf⟩
      · simp [ha] at e
    gens := hg
    os := rfl }
  refine wpAny_mono (hS F O _ _ _ _ R hp) ?_ fun e s₂ z => (noX_elim z).elim
  rintro fl s₂ ⟨fa, σ₂, hfa, R₂, h₂⟩
  refine ⟨_, retV fa, rfl, ?_, h₂, R₂.keep, R₂.gens, R₂.os⟩
  cases fa with
  | next => subst hfa; rfl
  | brk => subst hfa; rfl
  | cont => subst hfa; rfl
  | ret v => obtain ⟨u, rfl, hu'⟩ := hfa; exact hu'
end
section
-- _NodeInfo.__init__
noncomputable def D_record : FD := { vars := [("self", .loc), ("node", .loc)], globs := [], calm := true, fn := true, depth := 0 }
noncomputable def pt_record : SP :=
  (sSeq (sAssign (pName 1) (aAttrN 0 (pName 0))) (sSeq (sAssign (pInt 0) (aAttrN 1 (pName 0))) (sAssign (pList lNil) (aAttrN 2 (pName 0)))))
noncomputable def fp_record : FP := fpOf 2 pt_record
-- TopologicalSorter.__init__
noncomputable def D_sorter : FD := { vars := [("self", .loc), ("graph", .loc), ("node", .loc), ("predecessors", .loc)], globs := [], calm := true, fn := true, depth := 0 }
noncomputable def pt_sorter : SP :=
  (sSeq (sAssign pDict0 (aAttrS 0 (pName 0))) (sSeq (sAssign pNone (aAttrS 1 (pName 0))) (sSeq (sAssign (pInt 0) (aAttrS 2 (pName 0))) (sSeq (sAssign (pInt 0) (aAttrS 3 (pName 0))) (sIf (tOf (pBin opIsNotN (pName 1) pNone)) sDead sNil)))))
noncomputable def fp_sorter : FP := fpDflt 1 pt_sorter
-- TopologicalSorter._get_nodeinfo
noncomputable def D_get_nodeinfo : FD := { vars := [("self", .loc), ("node", .loc), ("result", .loc)], globs := ["_NodeInfo"], calm := true, fn := true, depth := 1 }
noncomputable def pt_get_nodeinfo : SP :=
  (sSeq (sIf (tOf (pBin opIsN (pWal (pBm "dict" opGet (pUn (opAttrS 0) (pName 0)) (lCons (pName 1) lNil)) (aName 2)) pNone)) (sAssign (pNewN fp_record (lCons (pName 1) lNil)) fun v Q E σ => (aItem (pUn (opAttrS 0) (pName 0)) (pName 1)) v (fun _ σ' => (aName 2) v Q E σ') E σ) sNil) (sRet (pName 2)))
noncomputable def fp_get_nodeinfo : FP := fpOf 2 pt_get_nodeinfo
-- TopologicalSorter.add
noncomputable def D_add : FD := { vars := [("self", .loc), ("node", .loc), ("predecessors", .loc), ("nodeinfo", .loc), ("pred", .loc), ("pred_info", .loc)], globs := ["len"], calm := true, fn := true, depth := 2 }
noncomputable def pt_add : SP :=
  (sSeq (sIf (tOf (pBin opIsNotN (pUn (opAttrS 1) (pName 0)) pNone)) sDead sNil) (sSeq (sAssign (pMeth (pName 0) fp_get_nodeinfo (lCons (pName 1) lNil)) (aName 3)) (sSeq (sAugN 1 iAdd (pName 3) (pBi opLen (lCons (pName 2) lNil))) (sFor (iSeq (pName 2)) (aName 4) (sSeq (sAssign (pMeth (pName 0) fp_get_nodeinfo (lCons (pName 4) lNil)) (aName 5)) (sExpr (pBm "list" opAppend (pUn (opAttrN 2) (pName 5)) (lCons (pName 1) lNil))))))))
noncomputable def fp_add : FP := fpStar 2 pt_add
-- TopologicalSorter._find_cycle
noncomputable def D_find_cycle : FD := { vars := [("self", .loc), ("n2i", .loc), ("stack", .loc), ("itstack", .loc), ("seen", .loc), ("node2stacki", .loc), ("node", .loc)], globs := ["set", "iter", "len", "StopIteration"], calm := true, fn := true, depth := 0 }
noncomputable def pt_find_cycle : SP :=
  (sSeq (sAssign (pUn (opAttrS 0) (pName 0)) (aName 1)) (sSeq (sAssign (pList lNil) (aName 2)) (sSeq (sAssign (pList lNil) (aName 3)) (sSeq (sAssign opSet0 (aName 4)) (sSeq (sAssign pDict0 (aName 5)) (sSeq (sFor (iSeq (pName 1)) (aName 6) (sSeq (sIf (tOf (pBin opIn (pName 6) (pName 4))) (sFlow .cont) sNil) (sWhile (tOf (pBool true)) (sSeq (sIf (tOf (pBin opIn (pName 6) (pName 4))) (sIf (tOf (pBin opIn (pName 6) (pName 5))) (sRet (pBin opAdd (pSlice (pName 2) (pBin opItem (pName 5) (pName 6)) pNone) (pList (lCons (pName 6) lNil)))) sNil) (sSeq (sExpr (pBm "set" opAdd' (pName 4) (lCons (pName 6) lNil))) (sSeq (sExpr (pBm "list" opAppend (pName 3) (lCons (pIterNext (pUn (opAttrN 2) (pBin opItem (pName 1) (pName 6)))) lNil))) (sSeq (sAssign (pBi opLen (lCons (pName 2) lNil)) (aItem (pName 5) (pName 6))) (sExpr (pBm "list" opAppend (pName 2) (lCons (pName 6) lNil))))))) (sWhile (tOf (pName 2)) (sTry (sSeq (sAssign (pNextCall (pBin opItem (pName 3) (pUn opNeg (pInt 1)))) (aName 6)) (sFlow .brk)) sNil (sSeq (sDel (pName 5) (pBm "list" opPop (pName 2) lNil)) (sExpr (pBm "list" opPop (pName 3) lNil))) .stop) (sFlow .brk))) sNil))) (sRet pNone)))))))
noncomputable def fp_find_cycle : FP := fpOf 1 pt_find_cycle
-- TopologicalSorter.prepare
noncomputable def D_prepare : FD := { vars := [("self", .loc), ("cycle", .loc)], globs := ["CycleError"], calm := true, fn := true, depth := 1 }
noncomputable def D_prepare_c1 : FD := { vars := [("i", .loc)], globs := [], calm := true, fn := false, depth := 1 }
noncomputable def pt_prepare : SP :=
  (sSeq (sIf (tOf (pBin opIsNotN (pUn (opAttrS 1) (pName 0)) pNone)) sDead sNil) (sSeq (sAssign (pComp [none] (iVals (pUn (opAttrS 0) (pName 0))) (aName 0) (cTest (some (tOf (pBin opEq (pUn (opAttrN 1) (pName 0)) (pInt 0)))) (cEmit (pUn (opAttrN 0) (pName 0))))) (aAttrS 1 (pName 0))) (sSeq (sAssign (pMeth (pName 0) fp_find_cycle lNil) (aName 1)) (sIf (tOf (pName 1)) (sRaise .cycle (vCons vNil (vCons (vOf (pName 1)) vNil))) sNil))))
noncomputable def fp_prepare : FP := fpOf 1 pt_prepare
-- TopologicalSorter.get_ready
noncomputable def D_get_ready : FD := { vars := [("self", .loc), ("result", .loc), ("n2i", .loc), ("node", .loc)], globs := ["tuple", "_NODE_OUT", "len"], calm := true, fn := true, depth := 0 }
noncomputable def pt_get_ready : SP :=
  (sSeq (sIf (tOf (pBin opIsN (pUn (opAttrS 1) (pName 0)) pNone)) sDead sNil) (sSeq (sAssign (pBi opTuple (lCons (pUn (opAttrS 1) (pName 0)) lNil)) (aName 1)) (sSeq (sAssign (pUn (opAttrS 0) (pName 0)) (aName 2)) (sSeq (sFor (iSeq (pName 1)) (aName 3) (sAssign (pInt (-1)) (aAttrN 1 (pBin opItem (pName 2) (pName 3))))) (sSeq (sExpr (pBm "list" opClear (pUn (opAttrS 1) (pName 0)) lNil)) (sSeq (sAugS 2 iAdd (pName 0) (pBi opLen (lCons (pName 1) lNil))) (sRet (pName 1))))))))
noncomputable def fp_get_ready : FP := fpOf 1 pt_get_ready
-- TopologicalSorter.done
noncomputable def D_done : FD := { vars := [("self", .loc), ("nodes", .loc), ("n2i", .loc), ("node", .loc), ("nodeinfo", .loc), ("stat", .loc), ("successor", .loc), ("successor_info", .loc)], globs := ["_NODE_OUT", "_NODE_DONE"], calm := true, fn := true, depth := 0 }
noncomputable def pt_done : SP :=
  (sSeq (sIf (tOf (pBin opIsN (pUn (opAttrS 1) (pName 0)) pNone)) sDead sNil) (sSeq (sAssign (pUn (opAttrS 0) (pName 0)) (aName 2)) (sFor (iSeq (pName 1)) (aName 3) (sSeq (sIf (tOf (pBin opIsN (pWal (pBm "dict" opGet (pName 2) (lCons (pName 3) lNil)) (aName 4)) pNone)) sDead sNil) (sSeq (sAssign (pUn (opAttrN 1) (pName 4)) (aName 5)) (sSeq (sIf (tOf (pBin opNe (pName 5) (pInt (-1)))) (sIf (tOf (pBin opGe (pName 5) (pInt 0))) sDead (sIf (tOf (pBin opEq (pName 5) (pInt (-2)))) sDead sDead)) sNil) (sSeq (sAssign (pInt (-2)) (aAttrN 1 (pName 4))) (sSeq (sFor (iSeq (pUn (opAttrN 2) (pName 4))) (aName 6) (sSeq (sAssign (pBin opItem (pName 2) (pName 6)) (aName 7)) (sSeq (sAugN 1 opSub (pName 7) (pInt 1)) (sIf (tOf (pBin opEq (pUn (opAttrN 1) (pName 7)) (pInt 0))) (sExpr (pBm "list" opAppend (pUn (opAttrS 1) (pName 0)) (lCons (pName 6) lNil))) sNil)))) (sAugS 3 iAdd (pName 0) (pInt 1))))))))))
noncomputable def fp_done : FP := fpStar 1 pt_done
end
section
/-- everything that stood stands -/
noncomputable def Ext (hp hp' : AH) : Prop := ∀ a o, hp a = some o → hp' a = some o
theorem Ext.refl (hp : AH) : Ext hp hp := fun _ _ h => h
theorem Ext.trans {a b c : AH} (h : Ext a b) (k : Ext b c) : Ext a c := fun _ _ e => k _ _ (h _ _ e)
theorem upd_self (hp : AH) (a : Addr) (o : AObj) : upd hp a o a = some o := if_pos rfl
theorem upd_ne {hp : AH} {a b : Addr} {o : AObj} (h : b ≠ a) : upd hp a o b = hp b := if_neg h
theorem upd_at {hp : AH} {a b : Addr} {o : AObj} {x : Option AObj} (h : b ≠ a) (k : hp b = x) : upd hp a o b = x := (upd_ne h).trans k
theorem Ext.new {hp : AH} {a : Addr} (o : AObj) (h : hp a = none) : Ext hp (upd hp a o) := fun b o' e => by
  rw [upd_ne (fun q => by rw [q, h] at e; cases e)]; exact e
theorem Ext.into {hp hp' : AH} {a : Addr} {o : AObj} (h : Ext hp hp') (ha : hp a = none) : Ext hp (upd hp' a o) := fun b o' e => by
  rw [upd_ne (fun q => by rw [q, ha] at e; cases e)]; exact h _ _ e
theorem ne_of {hp : AH} {a b : Addr} {o : AObj} (h : hp a = some o) (h' : hp b = none) : a ≠ b := fun e => by rw [e, h'] at h; cases h
theorem ne_obj {hp : AH} {a b : Addr} {o o' : AObj} (h : hp a = some o) (h' : hp b = some o') (n : o ≠ o') : a ≠ b := fun e => by rw [e, h'] at h; cases h; exact n rfl
theorem Ext.none {hp hp' : AH} {a : Addr} (h : Ext hp hp') (e : hp' a = none) : hp a = none := by
  cases q : hp a with
  | none => rfl
  | some o => rw [h _ _ q] at e; cases e
theorem isSd_of {hp : AH} {d : Addr} {a b c e : Option AV} (h : hp d = some (.sd a b c e)) : isSd (hp d) := by rw [h]; trivial
theorem Ext.some {hp hp' : AH} {a : Addr} (h : Ext hp hp') (e : hp a ≠ Option.none) : hp' a ≠ Option.none := fun q => e (h.none q)
theorem upd_some {hp : AH} {a b : Addr} {o : AObj} (e : hp b ≠ Option.none) : upd hp a o b ≠ Option.none := fun q => by
  unfold upd at q
  split at q
  · cases q
  · exact e q
theorem Ext.isSd {hp hp' : AH} {d : Addr} (h : Ext hp hp') (k : isSd (hp d)) : isSd (hp' d) := by
  cases q : hp d with
  | none => rw [q] at k; exact k.elim
  | some o => rw [h _ _ q]; rw [q] at k; exact k
theorem upd_isSd {hp : AH} {a d : Addr} {v0 v1 v2 v3 : Option AV} (k : isSd (hp d)) : isSd (upd hp a (.sd v0 v1 v2 v3) d) := by
  by_cases e : d = a
  · rw [e, upd_self]; trivial
  · rw [upd_ne e]; exact k
theorem upd_isSd' {hp : AH} {a d : Addr} {o o' : AObj} (h : hp a = some o') (n : ¬ isSd (some o')) (k : isSd (hp d)) : isSd (upd hp a o d) := by
  rw [upd_ne (fun e => by rw [e, h] at k; exact n k)]; exact k

theorem record_spec {hp : AH} {x d : Addr} {nv : AV} {Q : AV → AH → Prop} {E : Ex → AH → Prop} (hx : hp x = none) (hd : hp d = none) (hxd : x ≠ d)
    (h : ∀ hp' sl, Ext hp hp' → hp sl = none → hp' x = some (.rcd d [some nv, some (.int 0), some (.ref sl)]) → isSd (hp' d) → hp' sl = some (.list []) → Q .none hp') :
    fp_record [.ref x, nv] Q E (upd (upd hp d (.sd none none none none)) x (.rcd d [])) := by
  refine ⟨rfl, ?_⟩
  have e0 : upd (upd hp d (.sd none none none none)) x (.rcd d []) x = some (.rcd d []) := upd_self ..
  have e1 : upd (upd hp d (.sd none none none none)) x (.rcd d []) d = some (.sd none none none none) := by rw [upd_ne (Ne.symm hxd)]; exact upd_self ..
  have e2 : Ext hp (upd (upd hp d (.sd none none none none)) x (.rcd d [])) := (Ext.new _ hd).into hx
  generalize upd (upd hp d (.sd none none none none)) x (.rcd d []) = h0 at e0 e1 e2
  have f0 := upd_self h0 x (.rcd d [some nv])
  have f1 := upd_at (o := .rcd d [some nv]) (Ne.symm hxd) e1
  have f2 := Ext.into (o := .rcd d [some nv]) e2 hx
  refine ⟨nv, rfl, .ref x, rfl, d, [], e0, isSd_of e1, ?_⟩
  show sSeq _ _ _ _ ⟨_, upd h0 x (.rcd d [some nv])⟩
  generalize upd h0 x (.rcd d [some nv]) = hp' at f0 f1 f2
  have g1 := upd_at (o := .rcd d [some nv, some (.int 0)]) (Ne.symm hxd) f1
  have g0 := upd_self hp' x (.rcd d [some nv, some (.int 0)])
  have g2 := Ext.into (o := .rcd d [some nv, some (.int 0)]) f2 hx
  refine ⟨.ref x, rfl, d, _, f0, isSd_of f1, ?_⟩
  show sAssign _ _ _ _ ⟨_, upd hp' x (.rcd d [some nv, some (.int 0)])⟩
  generalize upd hp' x (.rcd d [some nv, some (.int 0)]) = hp'' at g0 g1 g2
  refine ⟨by decide, fun sl hsl => ?_⟩
  have n1 := ne_of g1 hsl
  have n0 := ne_of g0 hsl
  refine ⟨.ref x, rfl, d, _, upd_at n0 g0, isSd_of (upd_at n1 g1), ?_⟩
  exact h _ sl ((g2.into (g2.none hsl)).into hx) (g2.none hsl) (upd_self ..) (isSd_of (upd_at (Ne.symm hxd) (upd_at n1 g1))) (upd_at (Ne.symm n0) (upd_self ..))

/-- a sorter: where it stands, what its records hold -/
structure Srt (hp : AH) (own : Addr → Prop) (x d n2i : Addr) (rec suc : Int → Addr) (keys : List Int) (cnt : Int → Int) (succ : Int → List Int) (rdy : AV) (np nf : Int) : Prop where
  hx : hp x = some (.inst d)
  hd : hp d = some (.sd (some (.ref n2i)) (some rdy) (some (.int np)) (some (.int nf)))
  hn : ∃ ep, hp n2i = some (.dict (keys.map fun k => (k, .ref (rec k))) ep)
  hr : ∀ k ∈ keys, ∃ dd, hp (rec k) = some (.rcd dd [some (.int k), some (.int (cnt k)), some (.ref (suc k))]) ∧ isSd (hp dd)
  hr2 : ∀ k ∈ keys, ∃ dd vs, hp (rec k) = some (.rcd dd vs) ∧ own dd
  hs : ∀ k ∈ keys, hp (suc k) = some (.list (intsA (succ k)))
  inj : ∀ k ∈ keys, ∀ j ∈ keys, suc k = suc j → k = j
  nd : keys.Nodup
  od : own d
  on : own n2i
  orr : ∀ k ∈ keys, own (rec k)
  os : ∀ k ∈ keys, own (suc k)
  out : ∀ k, k ∉ keys → cnt k = 0 ∧ succ k = []
  al : ∀ a, own a → hp a ≠ none

/-- what another owns stands -/
noncomputable def Frm (hp : AH) (own : Addr → Prop) (hp' : AH) (own' : Addr → Prop) : Prop := ∀ a o, hp a = some o → ¬ own a → hp' a = some o ∧ ¬ own' a
theorem Frm.refl (hp : AH) (own : Addr → Prop) : Frm hp own hp own := fun _ _ h k => ⟨h, k⟩
theorem Frm.trans {h1 h2 h3 : AH} {o1 o2 o3 : Addr → Prop} (a : Frm h1 o1 h2 o2) (b : Frm h2 o2 h3 o3) : Frm h1 o1 h3 o3 := fun x o e n => by
  obtain ⟨p, q⟩ := a x o e n
  exact b x o p q
theorem Frm.of_ext {hp hp' : AH} {own : Addr → Prop} (h : Ext hp hp') : Frm hp own hp' own := fun a o e n => ⟨h _ _ e, n⟩
theorem Frm.set {hp : AH} {own : Addr → Prop} {a : Addr} {o : AObj} (h : own a) : Frm hp own (upd hp a o) own := fun b o' e n => ⟨upd_at (fun q => n (q ▸ h)) e, n⟩
section
variable {hp hp' : AH} {own : Addr → Prop} {x d n2i : Addr} {rec suc : Int → Addr} {keys : List Int} {cnt : Int → Int} {succ : Int → List Int} {rdy : AV} {np nf : Int}
theorem Srt.ext (S : Srt hp own x d n2i rec suc keys cnt succ rdy np nf) (h : Ext hp hp') : Srt hp' own x d n2i rec suc keys cnt succ rdy np nf :=
  { S with
    hx := h _ _ S.hx, hd := h _ _ S.hd, hn := by obtain ⟨ep, e⟩ := S.hn; exact ⟨ep, h _ _ e⟩
    hr := fun k hk => by obtain ⟨dd, e, q⟩ := S.hr k hk; exact ⟨dd, h _ _ e, h.isSd q⟩
    hr2 := fun k hk => by obtain ⟨dd, vs, e, q⟩ := S.hr2 k hk; exact ⟨dd, vs, h _ _ e, q⟩
    hs := fun k hk => h _ _ (S.hs k hk)
    al := fun a ha => h.some (S.al a ha) }
/-- an object of the sorter's or none of its kinds' is changed -/
theorem Srt.setd (S : Srt hp own x d n2i rec suc keys cnt succ rdy np nf) (rdy' : AV) (np' nf' : Int) : Srt (upd hp d (.sd (some (.ref n2i)) (some rdy') (some (.int np')) (some (.int nf')))) own x d n2i rec suc keys cnt succ rdy' np' nf' :=
  { S with
    hx := upd_at (fun q => by have := S.hx; rw [q, S.hd] at this; cases this) S.hx
    hd := upd_self ..
    hn := by obtain ⟨ep, e⟩ := S.hn; exact ⟨ep, upd_at (fun q => by rw [q, S.hd] at e; cases e) e⟩
    hr := fun k hk => by
      obtain ⟨dd, e, q⟩ := S.hr k hk
      exact ⟨dd, upd_at (fun q => by rw [q, S.hd] at e; cases e) e, upd_isSd q⟩
    hr2 := fun k hk => by
      obtain ⟨dd, vs, e, q⟩ := S.hr2 k hk
      exact ⟨dd, vs, upd_at (fun q => by rw [q, S.hd] at e; cases e) e, q⟩
    hs := fun k hk => upd_at (fun q => by have := S.hs k hk; rw [q, S.hd] at this; cases this) (S.hs k hk)
    al := fun a ha => upd_some (S.al a ha) }
noncomputable def setI {α : Type} (f : Int → α) (k : Int) (v : α) : Int → α := fun j => if j = k then v else f j
theorem setI_self {α : Type} (f : Int → α) (k : Int) (v : α) : setI f k v k = v := if_pos rfl
theorem setI_ne {α : Type} {f : Int → α} {k j : Int} {v : α} (h : j ≠ k) : setI f k v j = f j := if_neg h
theorem Srt.rec_inj (S : Srt hp own x d n2i rec suc keys cnt succ rdy np nf) {k j : Int} (hk : k ∈ keys) (hj : j ∈ keys) (e : rec k = rec j) : k = j := by
  obtain ⟨_, h1, _⟩ := S.hr k hk
  obtain ⟨_, h2, _⟩ := S.hr j hj
  rw [e, h2] at h1
  cases h1; rfl
theorem Srt.setc (S : Srt hp own x d n2i rec suc keys cnt succ rdy np nf) {k : Int} (hk : k ∈ keys) (c : Int) {dd : Addr} (hdd : isSd (hp dd)) (odd : own dd) : Srt (upd hp (rec k) (.rcd dd [some (.int k), some (.int c), some (.ref (suc k))])) own x d n2i rec suc keys (setI cnt k c) succ rdy np nf := by
  obtain ⟨dk, ek, qk⟩ := S.hr k hk
  exact { S with
    hx := upd_at (fun q => by have := S.hx; rw [q, ek] at this; cases this) S.hx
    hd := upd_at (fun q => by have := S.hd; rw [q, ek] at this; cases this) S.hd
    hn := by obtain ⟨ep, e⟩ := S.hn; exact ⟨ep, upd_at (fun q => by rw [q, ek] at e; cases e) e⟩
    hr := fun j hj => by
      by_cases e : j = k
      · subst e
        exact ⟨dd, by rw [upd_self, setI_self], upd_isSd' ek id hdd⟩
      · obtain ⟨dj, ej, qj⟩ := S.hr j hj
        exact ⟨dj, by rw [upd_ne (fun q => e (S.rec_inj hj hk q)), setI_ne e]; exact ej, upd_isSd' ek id qj⟩
    hr2 := fun j hj => by
      by_cases e : j = k
      · subst e
        exact ⟨dd, _, upd_self .., odd⟩
      · obtain ⟨dj, vs, ej, qj⟩ := S.hr2 j hj
        exact ⟨dj, vs, by rw [upd_ne (fun q => e (S.rec_inj hj hk q))]; exact ej, qj⟩
    hs := fun j hj => upd_at (fun q => by have := S.hs j hj; rw [q, ek] at this; cases this) (S.hs j hj)
    out := fun j hj => ⟨by rw [setI_ne (fun e => hj (by rw [e]; exact hk))]; exact (S.out j hj).1, (S.out j hj).2⟩
    al := fun a ha => upd_some (S.al a ha) }
theorem Srt.sets (S : Srt hp own x d n2i rec suc keys cnt succ rdy np nf) {k : Int} (hk : k ∈ keys) (l : List Int) : Srt (upd hp (suc k) (.list (intsA l))) own x d n2i rec suc keys cnt (setI succ k l) rdy np nf := by
  have ek := S.hs k hk
  exact { S with
    hx := upd_at (fun q => by have := S.hx; rw [q, ek] at this; cases this) S.hx
    hd := upd_at (fun q => by have := S.hd; rw [q, ek] at this; cases this) S.hd
    hn := by obtain ⟨ep, e⟩ := S.hn; exact ⟨ep, upd_at (fun q => by rw [q, ek] at e; cases e) e⟩
    hr := fun j hj => by
      obtain ⟨dj, ej, qj⟩ := S.hr j hj
      exact ⟨dj, upd_at (fun q => by rw [q, ek] at ej; cases ej) ej, upd_isSd' ek id qj⟩
    hr2 := fun j hj => by
      obtain ⟨dj, vs, ej, qj⟩ := S.hr2 j hj
      exact ⟨dj, vs, upd_at (fun q => by rw [q, ek] at ej; cases ej) ej, qj⟩
    hs := fun j hj => by
      by_cases e : j = k
      · subst e; rw [upd_self, setI_self]
      · rw [upd_ne (fun q => e (S.inj j hj k hk q)), setI_ne e]; exact S.hs j hj
    out := fun j hj => ⟨(S.out j hj).1, by rw [setI_ne (fun e => hj (by rw [e]; exact hk))]; exact (S.out j hj).2⟩
    al := fun a ha => upd_some (S.al a ha) }
/-- a list that is none of the sorter's is changed -/
theorem Srt.setl (S : Srt hp own x d n2i rec suc keys cnt succ rdy np nf) {a : Addr} {l l' : List AV} (ha : hp a = some (.list l)) (hn : ∀ k ∈ keys, suc k ≠ a) : Srt (upd hp a (.list l')) own x d n2i rec suc keys cnt succ rdy np nf :=
  { S with
    hx := upd_at (fun q => by have := S.hx; rw [q, ha] at this; cases this) S.hx
    hd := upd_at (fun q => by have := S.hd; rw [q, ha] at this; cases this) S.hd
    hn := by obtain ⟨ep, e⟩ := S.hn; exact ⟨ep, upd_at (fun q => by rw [q, ha] at e; cases e) e⟩
    hr := fun j hj => by
      obtain ⟨dj, ej, qj⟩ := S.hr j hj
      exact ⟨dj, upd_at (fun q => by rw [q, ha] at ej; cases ej) ej, upd_isSd' ha id qj⟩
    hr2 := fun j hj => by
      obtain ⟨dj, vs, ej, qj⟩ := S.hr2 j hj
      exact ⟨dj, vs, upd_at (fun q => by rw [q, ha] at ej; cases ej) ej, qj⟩
    hs := fun j hj => upd_at (hn j hj) (S.hs j hj)
    al := fun a ha => upd_some (S.al a ha) }
theorem Srt.odd (S : Srt hp own x d n2i rec suc keys cnt succ rdy np nf) {k : Int} (hk : k ∈ keys) {dd : Addr} {vs : List (Option AV)} (e : hp (rec k) = some (.rcd dd vs)) : own dd := by
  obtain ⟨d2, v2, e2, q⟩ := S.hr2 k hk
  rw [e] at e2; cases e2; exact q
/-- what others do to what is none of the sorter's -/
theorem Srt.frame {o1 o2 : Addr → Prop} (S : Srt hp own x d n2i rec suc keys cnt succ rdy np nf) (F : Frm hp o1 hp' o2) (dis : ∀ a, own a → ¬ o1 a) (nx : ¬ o1 x) : Srt hp' own x d n2i rec suc keys cnt succ rdy np nf :=
  { S with
    hx := (F _ _ S.hx nx).1, hd := (F _ _ S.hd (dis _ S.od)).1, hn := by obtain ⟨ep, e⟩ := S.hn; exact ⟨ep, (F _ _ e (dis _ S.on)).1⟩
    hr := fun k hk => by
      obtain ⟨dd, e, q⟩ := S.hr k hk
      refine ⟨dd, (F _ _ e (dis _ (S.orr k hk))).1, ?_⟩
      cases h : hp dd with
      | none => rw [h] at q; exact q.elim
      | some o => rw [(F _ _ h (dis _ (S.odd hk e))).1, ← h]; exact q
    hr2 := fun k hk => by obtain ⟨dd, vs, e, q⟩ := S.hr2 k hk; exact ⟨dd, vs, (F _ _ e (dis _ (S.orr k hk))).1, q⟩
    hs := fun k hk => (F _ _ (S.hs k hk) (dis _ (S.os k hk))).1
    al := fun a ha => by
      cases h : hp a with
      | none => exact absurd h (S.al a ha)
      | some o => rw [(F _ _ h (dis a ha)).1]; nofun }
theorem find_rec {k : Int} (hk : k ∈ keys) : (keys.map fun k => (k, AV.ref (rec k))).find? (fun e => e.1 = k) = some (k, .ref (rec k)) := by
  induction keys with
  | nil => cases hk
  | cons a l ih =>
    by_cases e : a = k
    · subst e; simp
    · have : k ∈ l := by rcases List.mem_cons.mp hk with h | h; exact absurd h.symm e; exact h
      rw [List.map_cons, List.find?_cons_of_neg (by simpa using e)]
      exact ih this
theorem find_none {k : Int} (hk : k ∉ keys) : (keys.map fun k => (k, AV.ref (rec k))).find? (fun e => e.1 = k) = none := by
  rw [List.find?_eq_none]
  intro e he
  obtain ⟨j, hj, rfl⟩ := List.mem_map.mp he
  simp only [decide_eq_true_eq]
  exact fun q => hk (q ▸ hj)
end
end
section
theorem sorter_spec {Q : AV → AH → Prop} {E : Ex → AH → Prop} {hp0 : AH} {x d : Addr} (hx : hp0 x = none) (hd : hp0 d = none) (hxd : x ≠ d)
    (h : ∀ hp' own n2i rec suc, Ext hp0 hp' → (∀ a, own a → hp0 a = none) → ¬ own x → Srt hp' own x d n2i rec suc [] (fun _ => 0) (fun _ => []) .none 0 0 → Q .none hp') :
    fp_sorter [.ref x] Q E (upd (upd hp0 d (.sd none none none none)) x (.inst d)) := by
  refine ⟨rfl, ?_⟩
  have e0 : upd (upd hp0 d (.sd none none none none)) x (.inst d) x = some (.inst d) := upd_self ..
  have e1 : upd (upd hp0 d (.sd none none none none)) x (.inst d) d = some (.sd none none none none) := by rw [upd_ne (Ne.symm hxd)]; exact upd_self ..
  have e2 : Ext hp0 (upd (upd hp0 d (.sd none none none none)) x (.inst d)) := (Ext.new _ hd).into hx
  generalize upd (upd hp0 d (.sd none none none none)) x (.inst d) = hp at e0 e1 e2
  intro n ep hn
  have n0 := ne_of e0 hn
  have n1 := ne_of e1 hn
  have e3 := e2.none hn
  have f0 := upd_at (o := .dict [] ep) n0 e0
  have f1 := upd_at (o := .dict [] ep) n1 e1
  have f3 := upd_self hp n (.dict [] ep)
  have f2 := Ext.into (o := .dict [] ep) e2 e3
  show ∃ _, _
  generalize upd hp n (.dict [] ep) = h1 at f0 f1 f2 f3
  have g0 := fun o => upd_at (o := o) hxd f0
  have g1 := fun o => upd_at (o := o) (Ne.symm n1) f3
  refine ⟨.ref x, rfl, d, _, f0, f1, ⟨_, _, _, _, rfl⟩, ?_⟩
  refine ⟨.ref x, rfl, d, _, g0 _, upd_self .., ⟨_, _, _, _, rfl⟩, ?_⟩
  refine ⟨.ref x, rfl, d, _, upd_at hxd (g0 _), upd_self .., ⟨_, _, _, _, rfl⟩, ?_⟩
  refine ⟨.ref x, rfl, d, _, upd_at hxd (upd_at hxd (g0 _)), upd_self .., ⟨_, _, _, _, rfl⟩, ?_⟩
  refine ⟨.none, rfl, ?_⟩
  refine h _ (fun a => a = d ∨ a = n) n (fun _ => 0) (fun _ => 0) ((((f2.into hd).into hd).into hd).into hd) (by rintro a (rfl | rfl); exact hd; exact e3) (fun q => q.elim hxd n0) ?_
  have nn := Ne.symm n1
  exact { hx := upd_at hxd (upd_at hxd (upd_at hxd (g0 _))), hd := upd_self .., hn := ⟨ep, upd_at nn (upd_at nn (upd_at nn (g1 _)))⟩, hr := nofun, hr2 := nofun, hs := nofun, inj := nofun, nd := List.nodup_nil, od := .inl rfl, on := .inr rfl, orr := nofun, os := nofun, out := fun _ _ => ⟨rfl, rfl⟩, al := by
            rintro a (ha | ha)
            · exact fun q => by rw [ha] at q; exact absurd ((upd_self ..).symm.trans q) nofun
            · rw [ha]; exact upd_some (upd_some (upd_some (upd_some (fun q => by have := f3.symm.trans q; cases this)))) }
section
variable {hp hp' : AH} {own : Addr → Prop} {x d n2i : Addr} {rec suc : Int → Addr} {keys : List Int} {cnt : Int → Int} {succ : Int → List Int} {rdy : AV} {np nf : Int}
theorem Srt.put (S : Srt hp own x d n2i rec suc keys cnt succ rdy np nf) {k : Int} (hk : k ∉ keys) {r sl dd : Addr} (hr : hp r = some (.rcd dd [some (.int k), some (.int 0), some (.ref sl)])) (hdd : isSd (hp dd))
    (hsl : hp sl = some (.list [])) (nr : ∀ j ∈ keys, suc j ≠ sl) (ep' : Nat) :
    Srt (upd hp n2i (.dict (storedA (keys.map fun k => (k, .ref (rec k))) k (.ref r)) ep')) (fun a => own a ∨ a = r ∨ a = sl ∨ a = dd) x d n2i (setI rec k r) (setI suc k sl) (keys ++ [k]) cnt succ rdy np nf := by
  obtain ⟨ep, en⟩ := S.hn
  have hin : ∀ j ∈ keys ++ [k], j = k ∨ (j ∈ keys ∧ j ≠ k) := fun j hj => by
    by_cases e : j = k
    · exact .inl e
    · refine .inr ⟨?_, e⟩
      rcases List.mem_append.mp hj with h | h
      · exact h
      · exact absurd (List.mem_singleton.mp h) e
  refine { S with
    hx := upd_at (fun q => by have := S.hx; rw [q, en] at this; cases this) S.hx
    hd := upd_at (fun q => by have := S.hd; rw [q, en] at this; cases this) S.hd
    hn := ⟨ep', ?_⟩
    hr := fun j hj => ?_
    hr2 := fun j hj => ?_
    hs := fun j hj => ?_
    inj := fun j hj i hi e => ?_
    nd := ?_
    od := .inl S.od
    on := .inl S.on
    orr := fun j hj => ?_
    os := fun j hj => ?_
    out := fun j hj => ?_
    al := fun a ha => ?_ }
  · rw [upd_self]
    have : (keys.map fun k => (k, AV.ref (rec k))).any (fun e => e.1 = k) = false := by
      rw [List.any_eq_false]
      intro e he
      obtain ⟨j, hj, rfl⟩ := List.mem_map.mp he
      simp only [decide_eq_true_eq]
      exact fun q => hk (q ▸ hj)
    unfold storedA
    rw [this]
    simp only [Bool.false_eq_true, if_false, List.map_append, List.map_cons, List.map_nil, setI_self]
    congr 3
    refine List.map_congr_left fun j hj => ?_
    rw [setI_ne (fun e => hk (by rw [← e]; exact hj))]
  · rcases hin j hj with rfl | ⟨h1, h2⟩
    · rw [setI_self, setI_self, (S.out j hk).1]
      exact ⟨dd, upd_at (fun q => by rw [q, en] at hr; cases hr) hr, upd_isSd' en id hdd⟩
    · rw [setI_ne h2, setI_ne h2]
      obtain ⟨dj, ej, qj⟩ := S.hr j h1
      exact ⟨dj, upd_at (fun q => by rw [q, en] at ej; cases ej) ej, upd_isSd' en id qj⟩
  · rcases hin j hj with rfl | ⟨h1, h2⟩
    · rw [setI_self]
      exact ⟨dd, _, upd_at (fun q => by rw [q, en] at hr; cases hr) hr, .inr (.inr (.inr rfl))⟩
    · rw [setI_ne h2]
      obtain ⟨dj, vs, ej, qj⟩ := S.hr2 j h1
      exact ⟨dj, vs, upd_at (fun q => by rw [q, en] at ej; cases ej) ej, .inl qj⟩
  · rcases hin j hj with rfl | ⟨h1, h2⟩
    · rw [setI_self, (S.out j hk).2]
      exact upd_at (fun q => by rw [q, en] at hsl; cases hsl) hsl
    · rw [setI_ne h2]
      exact upd_at (fun q => by have := S.hs j h1; rw [q, en] at this; cases this) (S.hs j h1)
  · rcases hin j hj with rfl | ⟨h1, h2⟩ <;> rcases hin i hi with rfl | ⟨h3, h4⟩
    · rfl
    · rw [setI_self, setI_ne h4] at e; exact absurd e.symm (nr i h3)
    · rw [setI_self, setI_ne h2] at e; exact absurd e (nr j h1)
    · rw [setI_ne h2, setI_ne h4] at e; exact S.inj j h1 i h3 e
  · rw [List.nodup_append]
    exact ⟨S.nd, by simp, fun a ha b hb => by rw [List.mem_singleton.mp hb]; exact fun e => hk (e ▸ ha)⟩
  · rcases hin j hj with rfl | ⟨h1, h2⟩
    · rw [setI_self]; exact .inr (.inl rfl)
    · rw [setI_ne h2]; exact .inl (S.orr j h1)
  · rcases hin j hj with rfl | ⟨h1, h2⟩
    · rw [setI_self]; exact .inr (.inr (.inl rfl))
    · rw [setI_ne h2]; exact .inl (S.os j h1)
  · exact S.out j fun h => hj (List.mem_append_left _ h)
  · rcases ha with h | rfl | rfl | rfl
    · exact upd_some (S.al a h)
    · exact upd_some (by rw [hr]; nofun)
    · exact upd_some (by rw [hsl]; nofun)
    · exact upd_some (fun q => by rw [q] at hdd; exact hdd)
noncomputable def insK (keys : List Int) (k : Int) : List Int := if k ∈ keys then keys else keys ++ [k]
theorem mem_insK {keys : List Int} {k j : Int} : j ∈ insK keys k ↔ j ∈ keys ∨ j = k := by
  unfold insK
  split
  · rename_i h
    exact ⟨.inl, fun q => q.elim id fun e => e ▸ h⟩
  · simp
theorem get_info {k : Int} {Q : AV → AH → Prop} {E : Ex → AH → Prop} (S : Srt hp own x d n2i rec suc keys cnt succ rdy np nf) (hz : keys.length < 1000000)
    (h : ∀ hp' own' rec' suc', Srt hp' own' x d n2i rec' suc' (insK keys k) cnt succ rdy np nf → Frm hp own hp' own' → Q (.ref (rec' k)) hp') :
    fp_get_nodeinfo [.ref x, .int k] Q E hp := by
  obtain ⟨ep, en⟩ := S.hn
  refine ⟨rfl, ?_⟩
  refine ⟨.ref x, rfl, d, _, _, S.hx, S.hd, rfl, ⟨n2i, _, rfl, en, rfl⟩, .int k, rfl, _, ep, en, ?_⟩
  by_cases hk : k ∈ keys
  · rw [find_rec hk]
    refine ⟨_, rfl, ?_⟩
    unfold insK at h; rw [if_pos hk] at h
    exact h hp own rec suc S (Frm.refl _ _)
  · rw [find_none hk]
    unfold insK at h; rw [if_neg hk] at h
    dsimp only [pName, pInt, pBool, pNone, pBin, pUn, tOf, tNot, tAnd, tOr, pIf, lNil, lCons, lStar, starOf, pList, pTuple, pTruth, pSlice, sAssign, aName, aTuple, aItem, aAttrS, aAttrN, sAugName, sAugItem, sAugS, sAugN, sNil, sSeq, sIf, sRet, sFlow, sExpr, sFor, sWhile, sTry, sRaise, sDel, sPair, sDead, vNil, vCons, vOf, iSeq, iRange, iVals, pBi, pBm, pMeth, pCall, pNewS, pNewN, pWal, pComp, cTest, cEmit, cFor, cLoop, pDict0, pListRange, pIterNext, pNextCall, opNextCall, opSet0, opAdd, opSub, opMul, opDiv, opMod, opNeg, opEq, opNe, opLt, opGt, opGe, opIsN, opIsNotN, opIn, opNotIn, opItem, opSetItem, opAttrS, opSetS, opAttrN, opSetN, opLen, opSum, opMin2, opMax2, opAppend, opExtend, opClear, opPop, opCount, opGet, opAdd', opTuple, opList, opSorted, opDel, iAdd, AObj.fld, AObj.setFld, setvs, retV, noX, Option.map, Option.getD, ↓reduceIte, Bool.false_eq_true, Bool.not_true, Bool.not_false, List.cons_append, List.nil_append]
    refine ⟨_, rfl, fun r dd hr hdd hrd => ?_⟩
    refine record_spec hr hdd hrd fun hp' sl ex hsl er edd esl => ?_
    refine ⟨rfl, ?_⟩
    have S' := S.ext ex
    refine ⟨.ref x, rfl, d, _, _, S'.hx, S'.hd, rfl, .int k, rfl, .inr ⟨_, ep, ex _ _ en, by simpa using hz, fun ep' => ?_⟩⟩
    refine ⟨_, rfl, ?_⟩
    have := h _ _ _ _ (S'.put hk er edd esl (fun j hj => ne_of (S.hs j hj) hsl) ep') (fun a o e n => ⟨upd_at (fun q => n (q ▸ S.on)) (ex _ _ e), ?_⟩)
    · rwa [setI_self] at this
    · rintro (q | rfl | rfl | rfl)
      · exact n q
      · rw [hr] at e; cases e
      · rw [hsl] at e; cases e
      · rw [hdd] at e; cases e

noncomputable def addSucc (succ : Int → List Int) (ps : List Int) (k : Int) : Int → List Int := fun p => succ p ++ List.replicate (ps.count p) k
noncomputable def addKeys (keys : List Int) (ps : List Int) : List Int := ps.foldl insK keys
theorem len_insK (keys : List Int) (k : Int) : (insK keys k).length ≤ keys.length + 1 := by
  unfold insK; split <;> simp
theorem len_addKeys (keys ps : List Int) : (addKeys keys ps).length ≤ keys.length + ps.length := by
  induction ps generalizing keys with
  | nil => simp [addKeys]
  | cons p ps ih =>
    show (addKeys (insK keys p) ps).length ≤ _
    have h1 := ih (insK keys p)
    have h2 := len_insK keys p
    simp only [List.length_cons]; (first | lia | omega)
theorem take_next {α : Type} {l : List α} {i : Nat} (h : i < l.length) : l.take (i + 1) = l.take i ++ [l[i]] := by
  rw [List.take_add_one, List.getElem?_eq_getElem h]; rfl
theorem add_spec {k : Int} {ps : List Int} {Q : AV → AH → Prop} {E : Ex → AH → Prop} (S : Srt hp own x d n2i rec suc keys cnt succ .none np nf) (hz : keys.length + ps.length < 999990) (hz2 : ∀ p, (succ p).length + ps.length < 1000000)
    (h : ∀ hp' own' rec' suc', Srt hp' own' x d n2i rec' suc' (addKeys (insK keys k) ps) (setI cnt k (cnt k + ps.length)) (addSucc succ ps k) .none np nf → Frm hp own hp' own' → Q .none hp') :
    fp_add (.ref x :: .int k :: intsA ps) Q E hp := by
  refine ⟨by simp, by simp; (first | lia | omega), fun t ht => ?_⟩
  have S1 := S.ext (Ext.new (.tup (intsA ps)) ht)
  have F1 : Frm hp own (upd hp t (.tup (intsA ps))) own := Frm.of_ext (Ext.new _ ht)
  have ht1 := upd_self hp t (.tup (intsA ps))
  have hto : ¬ own t := fun q => S.al t q ht
  show pt_add _ _ ⟨_, upd hp t (.tup (intsA ps))⟩
  unfold pt_add
  generalize upd hp t (.tup (intsA ps)) = hp1 at S1 F1 ht1
  dsimp only [pName, pInt, pBool, pNone, pBin, pUn, tOf, tNot, tAnd, tOr, pIf, lNil, lCons, lStar, starOf, pList, pTuple, pTruth, pSlice, sAssign, aName, aTuple, aItem, aAttrS, aAttrN, sAugName, sAugItem, sAugS, sAugN, sNil, sSeq, sIf, sRet, sFlow, sExpr, sFor, sWhile, sTry, sRaise, sDel, sPair, sDead, vNil, vCons, vOf, iSeq, iRange, iVals, pBi, pBm, pMeth, pCall, pNewS, pNewN, pWal, pComp, cTest, cEmit, cFor, cLoop, pDict0, pListRange, pIterNext, pNextCall, opNextCall, opSet0, opAdd, opSub, opMul, opDiv, opMod, opNeg, opEq, opNe, opLt, opGt, opGe, opIsN, opIsNotN, opIn, opNotIn, opItem, opSetItem, opAttrS, opSetS, opAttrN, opSetN, opLen, opSum, opMin2, opMax2, opAppend, opExtend, opClear, opPop, opCount, opGet, opAdd', opTuple, opList, opSorted, opDel, iAdd, AObj.fld, AObj.setFld, setvs, retV, noX, Option.map, Option.getD, ↓reduceIte, Bool.false_eq_true, Bool.not_true, Bool.not_false, List.cons_append, List.nil_append]
  refine ⟨.ref x, rfl, d, _, _, S1.hx, S1.hd, rfl, ?_⟩
  dsimp only [pName, pInt, pBool, pNone, pBin, pUn, tOf, tNot, tAnd, tOr, pIf, lNil, lCons, lStar, starOf, pList, pTuple, pTruth, pSlice, sAssign, aName, aTuple, aItem, aAttrS, aAttrN, sAugName, sAugItem, sAugS, sAugN, sNil, sSeq, sIf, sRet, sFlow, sExpr, sFor, sWhile, sTry, sRaise, sDel, sPair, sDead, vNil, vCons, vOf, iSeq, iRange, iVals, pBi, pBm, pMeth, pCall, pNewS, pNewN, pWal, pComp, cTest, cEmit, cFor, cLoop, pDict0, pListRange, pIterNext, pNextCall, opNextCall, opSet0, opAdd, opSub, opMul, opDiv, opMod, opNeg, opEq, opNe, opLt, opGt, opGe, opIsN, opIsNotN, opIn, opNotIn, opItem, opSetItem, opAttrS, opSetS, opAttrN, opSetN, opLen, opSum, opMin2, opMax2, opAppend, opExtend, opClear, opPop, opCount, opGet, opAdd', opTuple, opList, opSorted, opDel, iAdd, AObj.fld, AObj.setFld, setvs, retV, noX, Option.map, Option.getD, ↓reduceIte, Bool.false_eq_true, Bool.not_true, Bool.not_false, List.cons_append, List.nil_append]
  refine ⟨.ref x, rfl, x, ⟨rfl, d, S1.hx, isSd_of S1.hd⟩, .int k, rfl, ?_⟩
  refine get_info S1 (by (first | lia | omega)) fun hp2 own2 rec2 suc2 S2 F2 => ?_
  have hk2 : k ∈ insK keys k := mem_insK.mpr (.inr rfl)
  obtain ⟨dk, ek, qk⟩ := S2.hr k hk2
  obtain ⟨ht2, hto2⟩ := F2 t _ ht1 hto
  refine ⟨_, rfl, dk, _, _, ek, qk, rfl, _, rfl, .inr ⟨_, ht2, ?_⟩⟩
  refine ⟨dk, _, ek, qk, ?_⟩
  have S3 := S2.setc hk2 (cnt k + ps.length) qk (S2.odd hk2 ek)
  have F3 : Frm hp own _ own2 := (F1.trans F2).trans (Frm.set (a := rec2 k) (o := .rcd dk [some (.int k), some (.int (cnt k + ps.length)), some (.ref (suc2 k))]) (S2.orr k hk2))
  have ht3 := upd_at (o := .rcd dk [some (.int k), some (.int (cnt k + ps.length)), some (.ref (suc2 k))]) (ne_obj ht2 ek nofun) ht2
  have hlen : ((intsA ps).length : Int) = ps.length := by simp
  rw [hlen]
  have e3 : ([some (AV.int k), some (AV.int (cnt k)), some (AV.ref (suc2 k))] ++ List.replicate (1 + 1 - [some (AV.int k), some (AV.int (cnt k)), some (AV.ref (suc2 k))].length) none).set 1 (some (.int (cnt k + ps.length))) = [some (.int k), some (.int (cnt k + ps.length)), some (.ref (suc2 k))] := rfl
  rw [e3]
  generalize upd hp2 (rec2 k) (.rcd dk [some (.int k), some (.int (cnt k + ps.length)), some (.ref (suc2 k))]) = hp3 at S3 F3 ht3
  refine ⟨_, rfl, t, rfl, .inr (.inl ⟨_, ht3, ?_⟩)⟩
  refine ⟨fun i σ' => σ'.loc 0 = some (.ref x) ∧ σ'.loc 1 = some (.int k) ∧ σ'.loc 2 = some (.ref t) ∧ ∃ own' rec' suc', Srt σ'.hp own' x d n2i rec' suc' (addKeys (insK keys k) (ps.take i)) (setI cnt k (cnt k + ps.length)) (addSucc succ (ps.take i) k) .none np nf ∧ Frm hp own σ'.hp own' ∧ σ'.hp t = some (.tup (intsA ps)) ∧ ¬ own' t, ?_, ?_⟩
  · refine ⟨rfl, rfl, rfl, own2, rec2, suc2, ?_, F3, ht3, hto2⟩
    have : addSucc succ (ps.take 0) k = succ := by funext p; simp [addSucc]
    rw [this]
    exact S3
  · rintro i ⟨l, g⟩ ⟨h0, h1, h2, own', rec', suc', S', F', ht', hto'⟩
    refine ⟨ht', ?_⟩
    dsimp only at h0 h1 h2 S' F' ht' ⊢
    by_cases hi : i < ps.length
    · have e1 : (intsA ps)[i]? = some (.int ps[i]) := by simp [hi]
      rw [e1]
      refine ⟨.ref x, h0, x, ⟨rfl, d, S'.hx, isSd_of S'.hd⟩, .int ps[i], rfl, ?_⟩
      have hl : (addKeys (insK keys k) (ps.take i)).length < 1000000 := by
        have h1 := len_addKeys (insK keys k) (ps.take i)
        have h2 := len_insK keys k
        have h3 : (ps.take i).length ≤ ps.length := by simp; (first | lia | omega)
        (first | lia | omega)
      refine get_info S' hl fun hp4 own4 rec4 suc4 S4 F4 => ?_
      have hk4 : ps[i] ∈ insK (addKeys (insK keys k) (ps.take i)) ps[i] := mem_insK.mpr (.inr rfl)
      obtain ⟨dk, ek, qk⟩ := S4.hr _ hk4
      have es := S4.hs _ hk4
      refine ⟨_, rfl, dk, _, _, ek, qk, rfl, ?_⟩
      refine ⟨⟨suc4 ps[i], _, rfl, es, rfl⟩, .int k, h1, _, es, ?_, ?_⟩
      · have := hz2 ps[i]
        have h5 := List.count_le_length (a := ps[i]) (l := ps.take i)
        simp [addSucc] at h5 ⊢
        (first | lia | omega)
      · refine ⟨h0, h1, h2, own4, rec4, suc4, ?_, (F'.trans F4).trans (Frm.set (S4.os _ hk4)), ?_, (F4 t _ ht' hto').2⟩
        · have S5 := S4.sets hk4 (addSucc succ (ps.take i) k ps[i] ++ [k])
          have e2 : ps.take (i + 1) = ps.take i ++ [ps[i]] := take_next hi
          have e3 : addKeys (insK keys k) (ps.take (i + 1)) = insK (addKeys (insK keys k) (ps.take i)) ps[i] := by
            rw [e2]; unfold addKeys; rw [List.foldl_append]; rfl
          have e4 : addSucc succ (ps.take (i + 1)) k = setI (addSucc succ (ps.take i) k) ps[i] (addSucc succ (ps.take i) k ps[i] ++ [k]) := by
            funext p
            rw [e2]
            unfold addSucc setI
            by_cases hp : p = ps[i]
            · subst hp
              rw [if_pos rfl, List.count_append, List.count_singleton_self, List.replicate_succ', List.append_assoc]
            · rw [if_neg hp, List.count_append, List.count_singleton, if_neg (by simpa using Ne.symm hp), Nat.add_zero]
          have e5 : intsA (addSucc succ (ps.take i) k ps[i] ++ [k]) = intsA (addSucc succ (ps.take i) k ps[i]) ++ [.int k] := by simp
          rw [e5] at S5
          rw [e3, e4]
          exact S5
        · exact upd_at (ne_obj (F4 t _ ht' hto').1 es nofun) (F4 t _ ht' hto').1
    · have e1 : (intsA ps)[i]? = none := by simp; (first | lia | omega)
      rw [e1]
      have e2 : ps.take i = ps := List.take_of_length_le (by (first | lia | omega))
      rw [e2] at S'
      exact h _ _ _ _ S' F'
end
end
section
/-- a place of the stack: the node, how many successors are taken, the iterator and its list -/
structure Fr4 where
  v : Int
  p : Nat
  u : Addr
  I : Addr
structure FH (hp0 hp : AH) (a2 a3 a4 a5 : Addr) (suc : Int → Addr) (L2 L3 : List AV) (T : Int → Bool) (n : Nat) (es : List (Int × AV)) (rs : List Fr4) : Prop where
  ext : Ext hp0 hp
  h2 : hp a2 = some (.list L2)
  h3 : hp a3 = some (.list L3)
  h4 : hp a4 = some (.set T n)
  h5 : ∃ ep, hp a5 = some (.dict es ep)
  nx : ∀ q ∈ rs, hp q.u = some (.next q.I) ∧ hp q.I = some (.iter (suc q.v) q.p) ∧ hp0 q.u = none ∧ hp0 q.I = none
  nd : (rs.map (·.I)).Nodup
  n23 : a2 ≠ a3
  z2 : hp0 a2 = none
  z3 : hp0 a3 = none
  z4 : hp0 a4 = none
  z5 : hp0 a5 = none
section
variable {hp0 hp : AH} {a2 a3 a4 a5 : Addr} {suc : Int → Addr} {L2 L3 : List AV} {T : Int → Bool} {n : Nat} {es : List (Int × AV)} {rs : List Fr4}
theorem FH.set2 (H : FH hp0 hp a2 a3 a4 a5 suc L2 L3 T n es rs) (L : List AV) : FH hp0 (upd hp a2 (.list L)) a2 a3 a4 a5 suc L L3 T n es rs :=
  { H with
    ext := H.ext.into H.z2
    h2 := upd_self ..
    h3 := upd_at (Ne.symm H.n23) H.h3
    h4 := upd_at (ne_obj H.h4 H.h2 nofun) H.h4
    h5 := by obtain ⟨ep, e⟩ := H.h5; exact ⟨ep, upd_at (ne_obj e H.h2 nofun) e⟩
    nx := fun q hq => by obtain ⟨e1, e2, e3⟩ := H.nx q hq; exact ⟨upd_at (ne_obj e1 H.h2 nofun) e1, upd_at (ne_obj e2 H.h2 nofun) e2, e3⟩ }
theorem FH.set3 (H : FH hp0 hp a2 a3 a4 a5 suc L2 L3 T n es rs) (L : List AV) : FH hp0 (upd hp a3 (.list L)) a2 a3 a4 a5 suc L2 L T n es rs :=
  { H with
    ext := H.ext.into H.z3
    h3 := upd_self ..
    h2 := upd_at H.n23 H.h2
    h4 := upd_at (ne_obj H.h4 H.h3 nofun) H.h4
    h5 := by obtain ⟨ep, e⟩ := H.h5; exact ⟨ep, upd_at (ne_obj e H.h3 nofun) e⟩
    nx := fun q hq => by obtain ⟨e1, e2, e3⟩ := H.nx q hq; exact ⟨upd_at (ne_obj e1 H.h3 nofun) e1, upd_at (ne_obj e2 H.h3 nofun) e2, e3⟩ }
theorem FH.set4 (H : FH hp0 hp a2 a3 a4 a5 suc L2 L3 T n es rs) (T' : Int → Bool) (n' : Nat) : FH hp0 (upd hp a4 (.set T' n')) a2 a3 a4 a5 suc L2 L3 T' n' es rs :=
  { H with
    ext := H.ext.into H.z4
    h4 := upd_self ..
    h2 := upd_at (ne_obj H.h2 H.h4 nofun) H.h2
    h3 := upd_at (ne_obj H.h3 H.h4 nofun) H.h3
    h5 := by obtain ⟨ep, e⟩ := H.h5; exact ⟨ep, upd_at (ne_obj e H.h4 nofun) e⟩
    nx := fun q hq => by obtain ⟨e1, e2, e3⟩ := H.nx q hq; exact ⟨upd_at (ne_obj e1 H.h4 nofun) e1, upd_at (ne_obj e2 H.h4 nofun) e2, e3⟩ }
theorem FH.set5 (H : FH hp0 hp a2 a3 a4 a5 suc L2 L3 T n es rs) (es' : List (Int × AV)) (ep' : Nat) : FH hp0 (upd hp a5 (.dict es' ep')) a2 a3 a4 a5 suc L2 L3 T n es' rs := by
  obtain ⟨ep, h5⟩ := H.h5
  exact { H with
    ext := H.ext.into H.z5
    h5 := ⟨ep', upd_self ..⟩
    h2 := upd_at (ne_obj H.h2 h5 nofun) H.h2
    h3 := upd_at (ne_obj H.h3 h5 nofun) H.h3
    h4 := upd_at (ne_obj H.h4 h5 nofun) H.h4
    nx := fun q hq => by obtain ⟨e1, e2, e3⟩ := H.nx q hq; exact ⟨upd_at (ne_obj e1 h5 nofun) e1, upd_at (ne_obj e2 h5 nofun) e2, e3⟩ }
theorem FH.newIter (H : FH hp0 hp a2 a3 a4 a5 suc L2 L3 T n es rs) {I u : Addr} (hIu : I ≠ u) (hI : hp I = none) (hu : hp u = none) (v : Int) :
    FH hp0 (upd (upd hp I (.iter (suc v) 0)) u (.next I)) a2 a3 a4 a5 suc L2 L3 T n es (⟨v, 0, u, I⟩ :: rs) :=
  have k : ∀ {a o}, hp a = some o → upd (upd hp I (.iter (suc v) 0)) u (.next I) a = some o := fun e => upd_at (ne_of e hu) (upd_at (ne_of e hI) e)
  { H with
    ext := fun a o e => k (H.ext a o e)
    h2 := k H.h2
    h3 := k H.h3
    h4 := k H.h4
    h5 := by obtain ⟨ep, e⟩ := H.h5; exact ⟨ep, k e⟩
    nx := fun q hq => by
      rcases List.mem_cons.mp hq with rfl | hq
      · exact ⟨upd_self .., upd_at hIu (upd_self ..), H.ext.none hu, H.ext.none hI⟩
      · obtain ⟨e1, e2, e3⟩ := H.nx q hq
        exact ⟨k e1, k e2, e3⟩
    nd := by
      rw [List.map_cons, List.nodup_cons]
      refine ⟨fun hm => ?_, H.nd⟩
      obtain ⟨q, hq, e⟩ := List.mem_map.mp hm
      have := (H.nx q hq).2.1
      rw [e, hI] at this; cases this }
theorem FH.incIter {q : Fr4} (H : FH hp0 hp a2 a3 a4 a5 suc L2 L3 T n es (q :: rs)) : FH hp0 (upd hp q.I (.iter (suc q.v) (q.p + 1))) a2 a3 a4 a5 suc L2 L3 T n es (⟨q.v, q.p + 1, q.u, q.I⟩ :: rs) := by
  obtain ⟨q1, q2, q3, q4⟩ := H.nx q (List.mem_cons_self ..)
  exact { H with
    ext := H.ext.into q4
    h2 := upd_at (ne_obj H.h2 q2 nofun) H.h2
    h3 := upd_at (ne_obj H.h3 q2 nofun) H.h3
    h4 := upd_at (ne_obj H.h4 q2 nofun) H.h4
    h5 := by obtain ⟨ep, e⟩ := H.h5; exact ⟨ep, upd_at (ne_obj e q2 nofun) e⟩
    nd := H.nd
    nx := fun r hr => by
      rcases List.mem_cons.mp hr with rfl | hr
      · exact ⟨upd_at (ne_obj q1 q2 nofun) q1, upd_self .., q3, q4⟩
      · obtain ⟨e1, e2, e3⟩ := H.nx r (List.mem_cons_of_mem _ hr)
        have nd := H.nd
        rw [List.map_cons, List.nodup_cons] at nd
        exact ⟨upd_at (ne_obj e1 q2 nofun) e1, upd_at (fun e => nd.1 (by rw [← e]; exact List.mem_map_of_mem (f := (·.I)) hr)) e2, e3⟩ }
theorem FH.dropIter {q : Fr4} (H : FH hp0 hp a2 a3 a4 a5 suc L2 L3 T n es (q :: rs)) : FH hp0 (fun b => if b = q.I then none else hp b) a2 a3 a4 a5 suc L2 L3 T n es rs := by
  obtain ⟨q1, q2, q3, q4⟩ := H.nx q (List.mem_cons_self ..)
  have k : ∀ {a o}, hp a = some o → a ≠ q.I → (if a = q.I then none else hp a) = some o := fun e n => by rw [if_neg n]; exact e
  have nd := H.nd
  rw [List.map_cons, List.nodup_cons] at nd
  exact { H with
    ext := fun a o e => k (H.ext a o e) (ne_of e q4)
    h2 := k H.h2 (ne_obj H.h2 q2 nofun)
    h3 := k H.h3 (ne_obj H.h3 q2 nofun)
    h4 := k H.h4 (ne_obj H.h4 q2 nofun)
    h5 := by obtain ⟨ep, e⟩ := H.h5; exact ⟨ep, k e (ne_obj e q2 nofun)⟩
    nd := nd.2
    nx := fun r hr => by
      obtain ⟨e1, e2, e3⟩ := H.nx r (List.mem_cons_of_mem _ hr)
      exact ⟨k e1 (ne_obj e1 q2 nofun), k e2 (fun e => nd.1 (by rw [← e]; exact List.mem_map_of_mem (f := (·.I)) hr)), e3⟩ }
end

/-- the node w is met behind the stack -/
noncomputable def Chain (succ : Int → List Int) (fin : List Int) : List Fr4 → Int → Prop
  | [], _ => True
  | q :: rs, w => (0 < q.p ∧ (succ q.v)[q.p - 1]? = some w ∧ ∀ j, j < q.p - 1 → ∀ u, (succ q.v)[j]? = some u → u ∈ fin) ∧ Chain succ fin rs q.v
noncomputable def Inner (succ : Int → List Int) (fin : List Int) : List Fr4 → Prop
  | [] => True
  | q :: rs => (∀ j, j < q.p → ∀ u, (succ q.v)[j]? = some u → u ∈ fin) ∧ Chain succ fin rs q.v
theorem Chain.mono {succ : Int → List Int} {fin fin' : List Int} (h : ∀ k ∈ fin, k ∈ fin') : ∀ {rs : List Fr4} {w : Int}, Chain succ fin rs w → Chain succ fin' rs w
  | [], _, _ => trivial
  | _ :: _, _, ⟨⟨a, b, c⟩, d⟩ => ⟨⟨a, b, fun j hj u hu => h _ (c j hj u hu)⟩, Chain.mono h d⟩
inductive TC (succ : Int → List Int) : Int → Int → Prop
  | one {a b : Int} : b ∈ succ a → TC succ a b
  | more {a b c : Int} : TC succ a b → c ∈ succ b → TC succ a c
theorem Chain.tc {succ : Int → List Int} {fin : List Int} {k : Int} : ∀ {rs : List Fr4} {w : Int}, Chain succ fin rs w → k ∈ rs.map (·.v) → TC succ k w
  | [], _, _, h => by cases h
  | q :: rs, w, ⟨⟨a, b, c⟩, d⟩, h => by
    have e : w ∈ succ q.v := List.mem_of_getElem? b
    rcases List.mem_cons.mp h with rfl | h
    · exact .one e
    · exact .more (Chain.tc d h) e
/-- the graph part of the state of _find_cycle -/
structure FG (keys : List Int) (succ : Int → List Int) (rs : List Fr4) (fin : List Int) : Prop where
  nd : (fin ++ rs.map (·.v)).Nodup
  sub : ∀ k, k ∈ fin ++ rs.map (·.v) → k ∈ keys
  fo : ∀ l1 v l2, fin = l1 ++ v :: l2 → ∀ w ∈ succ v, w ∈ l1
  ps : ∀ q ∈ rs, q.p ≤ (succ q.v).length
theorem sum_sub {f : Int → Nat} : ∀ {l keys : List Int}, l.Nodup → (∀ k ∈ l, k ∈ keys) → (l.map f).sum ≤ (keys.map f).sum
  | [], _, _, _ => by simp
  | a :: l, keys, h, hs => by
    have ha := hs a (List.mem_cons_self ..)
    rw [List.nodup_cons] at h
    have p := List.perm_cons_erase ha
    rw [(p.map f).sum_nat]
    simp only [List.map_cons, List.sum_cons]
    have := sum_sub (f := f) (l := l) (keys := keys.erase a) h.2 fun k hk => (List.mem_erase_of_ne (fun e => h.1 (by rw [← e]; exact hk))).mpr (hs k (List.mem_cons_of_mem _ hk))
    (first | lia | omega)
noncomputable def actA (succ : Int → List Int) (rs : List Fr4) (fin : List Int) : Nat := 2 * fin.length + rs.length + (fin.map fun k => (succ k).length).sum + (rs.map (·.p)).sum
noncomputable def actB (keys : List Int) (succ : Int → List Int) : Nat := 2 * keys.length + (keys.map fun k => (succ k).length).sum
theorem FG.bound {keys : List Int} {succ : Int → List Int} {rs : List Fr4} {fin : List Int} (G : FG keys succ rs fin) : actA succ rs fin ≤ actB keys succ ∧ fin.length + rs.length ≤ keys.length := by
  have h1 := sum_sub (f := fun k => (succ k).length) G.nd G.sub
  have h2 := sum_sub (f := fun _ => 1) G.nd G.sub
  have h3 : ∀ l : List Int, (l.map fun _ => 1).sum = l.length := fun l => by induction l with
    | nil => rfl
    | cons a l ih => simp only [List.map_cons, List.sum_cons, List.length_cons, ih]; (first | lia | omega)
  rw [h3, h3] at h2
  have h4 : ∀ rs : List Fr4, (∀ q ∈ rs, q.p ≤ (succ q.v).length) → (rs.map (·.p)).sum ≤ ((rs.map (·.v)).map fun k => (succ k).length).sum := fun rs h => by
    induction rs with
    | nil => simp
    | cons a l ih =>
      have := ih fun q hq => h q (List.mem_cons_of_mem _ hq)
      have := h a (List.mem_cons_self ..)
      simp only [List.map_cons, List.sum_cons]; (first | lia | omega)
  have h5 := h4 rs G.ps
  rw [List.map_append, List.sum_append] at h1
  simp only [List.length_append, List.length_map] at h2
  unfold actA actB
  (first | lia | omega)
theorem FG.push {keys : List Int} {succ : Int → List Int} {rs : List Fr4} {fin : List Int} (G : FG keys succ rs fin) {v : Int} (hv : v ∈ keys) (h1 : v ∉ fin ++ rs.map (·.v)) (u I : Addr) : FG keys succ (⟨v, 0, u, I⟩ :: rs) fin where
  nd := by
    have := G.nd
    rw [List.map_cons]
    exact (List.perm_middle).nodup_iff.mpr (List.nodup_cons.mpr ⟨h1, this⟩)
  sub := fun k hk => by
    rw [List.map_cons] at hk
    rcases List.mem_cons.mp ((List.perm_middle).mem_iff.mp hk) with rfl | h
    · exact hv
    · exact G.sub k h
  fo := G.fo
  ps := fun q hq => by
    rcases List.mem_cons.mp hq with rfl | h
    · exact Nat.zero_le _
    · exact G.ps q h
theorem FG.inc {keys : List Int} {succ : Int → List Int} {q : Fr4} {rs : List Fr4} {fin : List Int} (G : FG keys succ (q :: rs) fin) (h : q.p < (succ q.v).length) : FG keys succ (⟨q.v, q.p + 1, q.u, q.I⟩ :: rs) fin where
  nd := G.nd
  sub := G.sub
  fo := G.fo
  ps := fun r hr => by
    rcases List.mem_cons.mp hr with rfl | h'
    · exact h
    · exact G.ps r (List.mem_cons_of_mem _ h')
theorem FG.pop {keys : List Int} {succ : Int → List Int} {q : Fr4} {rs : List Fr4} {fin : List Int} (G : FG keys succ (q :: rs) fin) (h : ∀ w ∈ succ q.v, w ∈ fin) : FG keys succ rs (fin ++ [q.v]) where
  nd := by simpa using G.nd
  sub := fun k hk => G.sub k (by simpa using hk)
  fo := fun l1 v l2 e w hw => by
    rcases List.eq_nil_or_concat l2 with rfl | ⟨l3, b, rfl⟩
    · obtain ⟨e1, e2⟩ := List.append_inj' e rfl
      cases e2
      rw [← e1]; exact h w hw
    · rw [List.concat_eq_append, ← List.cons_append, ← List.append_assoc] at e
      obtain ⟨e1, e2⟩ := List.append_inj' e rfl
      exact G.fo l1 v l3 e1 w hw
  ps := fun r hr => G.ps r (List.mem_cons_of_mem _ hr)

noncomputable def idxD (l : List Int) : List (Int × AV) := l.zipIdx.map fun p => (p.1, .int p.2)
structure FI (hp0 : AH) (n2i a2 a3 a4 a5 : Addr) (suc : Int → Addr) (keys : List Int) (succ : Int → List Int) (σ : St) (rs : List Fr4) (fin : List Int) : Prop where
  l1 : σ.loc 1 = some (.ref n2i)
  l2 : σ.loc 2 = some (.ref a2)
  l3 : σ.loc 3 = some (.ref a3)
  l4 : σ.loc 4 = some (.ref a4)
  l5 : σ.loc 5 = some (.ref a5)
  H : ∃ T n, FH hp0 σ.hp a2 a3 a4 a5 suc (intsA (rs.reverse.map (·.v))) (rs.reverse.map fun q => .ref q.u) T n (idxD (rs.reverse.map (·.v))) rs ∧ n ≤ fin.length + rs.length ∧ ∀ k, T k = true ↔ k ∈ fin ++ rs.map (·.v)
  G : FG keys succ rs fin
section
variable {hp : AH} {own : Addr → Prop} {x d n2i : Addr} {rec suc : Int → Addr} {keys : List Int} {cnt : Int → Int} {succ : Int → List Int} {rdy : AV} {np nf : Int}
theorem hasKey_set {σ : St} {c : Addr} {T : Int → Bool} {n : Nat} {x : Int} (h : σ.hp c = some (.set T n)) : hasKey σ c x = some (T x) := by unfold hasKey; rw [h]
theorem hasKey_dict {σ : St} {c : Addr} {es : List (Int × AV)} {n : Nat} {x : Int} (h : σ.hp c = some (.dict es n)) : hasKey σ c x = some (es.any (·.1 == x)) := by unfold hasKey; rw [h]
theorem item_last {σ : St} {c : Addr} {l : List AV} {v : AV} (h : σ.hp c = some (.list (l ++ [v]))) : σ.item c (-1) = some v := by
  unfold St.item; rw [h]
  have : seqIndex? (-1) (l ++ [v]).length = some l.length := by
    have e : (if (-1 : Int) < 0 then (-1 : Int) + ((l ++ [v]).length : Int) else -1) = l.length := by
      rw [if_pos (by decide), List.length_append]; simp only [List.length_cons, List.length_nil]; (first | lia | omega)
    unfold seqIndex?
    simp only [e]
    rw [if_pos (by rw [List.length_append]; simp only [List.length_cons, List.length_nil, Bool.and_eq_true, decide_eq_true_eq]; (first | lia | omega))]
    rfl
  simp only
  rw [this]
  simp
noncomputable def fcInner : SP := (sWhile (tOf (pName 2)) (sTry (sSeq (sAssign (pNextCall (pBin opItem (pName 3) (pUn opNeg (pInt 1)))) (aName 6)) (sFlow .brk)) sNil (sSeq (sDel (pName 5) (pBm "list" opPop (pName 2) lNil)) (sExpr (pBm "list" opPop (pName 3) lNil))) .stop) (sFlow .brk))
noncomputable def fcTop : SP := (sIf (tOf (pBin opIn (pName 6) (pName 4))) (sIf (tOf (pBin opIn (pName 6) (pName 5))) (sRet (pBin opAdd (pSlice (pName 2) (pBin opItem (pName 5) (pName 6)) pNone) (pList (lCons (pName 6) lNil)))) sNil) (sSeq (sExpr (pBm "set" opAdd' (pName 4) (lCons (pName 6) lNil))) (sSeq (sExpr (pBm "list" opAppend (pName 3) (lCons (pIterNext (pUn (opAttrN 2) (pBin opItem (pName 1) (pName 6)))) lNil))) (sSeq (sAssign (pBi opLen (lCons (pName 2) lNil)) (aItem (pName 5) (pName 6))) (sExpr (pBm "list" opAppend (pName 2) (lCons (pName 6) lNil)))))))
noncomputable def fcWhile : SP := (sWhile (tOf (pBool true)) (sSeq fcTop fcInner) sNil)
theorem fc_eq : pt_find_cycle = (sSeq (sAssign (pUn (opAttrS 0) (pName 0)) (aName 1)) (sSeq (sAssign (pList lNil) (aName 2)) (sSeq (sAssign (pList lNil) (aName 3)) (sSeq (sAssign opSet0 (aName 4)) (sSeq (sAssign pDict0 (aName 5)) (sSeq (sFor (iSeq (pName 1)) (aName 6) (sSeq (sIf (tOf (pBin opIn (pName 6) (pName 4))) (sFlow .cont) sNil) fcWhile)) (sRet pNone))))))) := rfl
theorem list_snoc {α β : Type} (f : α → β) (q : α) (rs : List α) : (q :: rs).reverse.map f = rs.reverse.map f ++ [f q] := by simp
theorem lst_of {σ : St} {a : Addr} {l : List AV} (h : σ.hp a = some (.list l)) : σ.lst a = some l := by unfold St.lst; rw [h]
theorem idx_snoc {l : List Int} {k : Int} : idxD (l ++ [k]) = idxD l ++ [(k, .int l.length)] := by
  unfold idxD
  rw [List.zipIdx_append]; simp
theorem idx_any {l : List Int} {k : Int} : (idxD l).any (fun e => e.1 = k) = true ↔ k ∈ l := by
  rw [List.any_eq_true]
  constructor
  · rintro ⟨e, he, hk⟩
    obtain ⟨p, hp, rfl⟩ := List.mem_map.mp he
    have := List.fst_mem_of_mem_zipIdx hp
    simp only [decide_eq_true_eq] at hk
    rw [← hk]; exact this
  · intro h
    obtain ⟨i, hi, e⟩ := List.mem_iff_getElem.mp h
    refine ⟨(k, .int i), List.mem_map.mpr ⟨(k, i), ?_, rfl⟩, by simp⟩
    rw [List.mk_mem_zipIdx_iff_getElem?]
    rw [List.getElem?_eq_getElem hi, e]
theorem idx_filter {l : List Int} {k : Int} (hk : k ∉ l) : (idxD (l ++ [k])).filter (fun e => decide (e.1 ≠ k)) = idxD l := by
  rw [idx_snoc, List.filter_append, List.filter_eq_self.mpr]
  · simp
  · intro e he
    obtain ⟨p, hp, rfl⟩ := List.mem_map.mp he
    have := List.fst_mem_of_mem_zipIdx hp
    simp only [decide_eq_true_eq]
    exact fun q => hk (q ▸ this)
theorem inner_spec {σ : St} {Q : Fl → St → Prop} {E : Ex → St → Prop} {hp0 : AH} {n2i a2 a3 a4 a5 : Addr} {suc : Int → Addr} {keys : List Int} {succ : Int → List Int} {rs : List Fr4} {fin : List Int}
    (hl : ∀ k ∈ keys, hp0 (suc k) = some (.list (intsA (succ k)))) (hsub : ∀ v ∈ keys, ∀ w ∈ succ v, w ∈ keys) (hz : keys.length < 1000)
    (I : FI hp0 n2i a2 a3 a4 a5 suc keys succ σ rs fin) (hin : Inner succ fin rs)
    (h1 : ∀ σ' rs' fin' w, FI hp0 n2i a2 a3 a4 a5 suc keys succ σ' rs' fin' → σ'.loc 6 = some (.int w) → w ∈ keys → Chain succ fin' rs' w → (∀ k, k ∈ fin → k ∈ fin') → (∀ k, k ∈ fin ++ rs.map (·.v) → k ∈ fin' ++ rs'.map (·.v)) → actA succ rs fin < actA succ rs' fin' → Q .next σ')
    (h2 : ∀ σ' fin', FI hp0 n2i a2 a3 a4 a5 suc keys succ σ' [] fin' → (∀ k, k ∈ fin → k ∈ fin') → (∀ k, k ∈ fin ++ rs.map (·.v) → k ∈ fin') → Q .brk σ') :
    fcInner Q E σ := by
  refine ⟨fun m σ' => ∃ rs' fin', FI hp0 n2i a2 a3 a4 a5 suc keys succ σ' rs' fin' ∧ Inner succ fin' rs' ∧ (∀ k, k ∈ fin → k ∈ fin') ∧ (∀ k, k ∈ fin ++ rs.map (·.v) → k ∈ fin' ++ rs'.map (·.v)) ∧ actA succ rs' fin' + m = actB keys succ ∧ actA succ rs fin ≤ actA succ rs' fin', ?_, ?_⟩
  · exact ⟨actB keys succ - actA succ rs fin, rs, fin, I, hin, fun _ h => h, fun _ h => h, by have := I.G.bound.1; (first | lia | omega), Nat.le_refl _⟩
  · rintro m ⟨l, g⟩ ⟨rs', fin', I', hin', hf, hf2, hA, hA2⟩
    obtain ⟨T, n, H, hn, hT⟩ := I'.H
    dsimp only [pName, pInt, pBool, pNone, pBin, pUn, tOf, tNot, tAnd, tOr, pIf, lNil, lCons, lStar, starOf, pList, pTuple, pTruth, pSlice, sAssign, aName, aTuple, aItem, aAttrS, aAttrN, sAugName, sAugItem, sAugS, sAugN, sNil, sSeq, sIf, sRet, sFlow, sExpr, sFor, sWhile, sTry, sRaise, sDel, sPair, sDead, vNil, vCons, vOf, iSeq, iRange, iVals, pBi, pBm, pMeth, pCall, pNewS, pNewN, pWal, pComp, cTest, cEmit, cFor, cLoop, pDict0, pListRange, pIterNext, pNextCall, opNextCall, opSet0, opAdd, opSub, opMul, opDiv, opMod, opNeg, opEq, opNe, opLt, opGt, opGe, opIsN, opIsNotN, opIn, opNotIn, opItem, opSetItem, opAttrS, opSetS, opAttrN, opSetN, opLen, opSum, opMin2, opMax2, opAppend, opExtend, opClear, opPop, opCount, opGet, opAdd', opTuple, opList, opSorted, opDel, iAdd, AObj.fld, AObj.setFld, setvs, retV, noX, Option.map, Option.getD, ↓reduceIte, Bool.false_eq_true, Bool.not_true, Bool.not_false, List.cons_append, List.nil_append]
    refine ⟨_, I'.l2, ?_⟩
    dsimp only [pName, pInt, pBool, pNone, pBin, pUn, tOf, tNot, tAnd, tOr, pIf, lNil, lCons, lStar, starOf, pList, pTuple, pTruth, pSlice, sAssign, aName, aTuple, aItem, aAttrS, aAttrN, sAugName, sAugItem, sAugS, sAugN, sNil, sSeq, sIf, sRet, sFlow, sExpr, sFor, sWhile, sTry, sRaise, sDel, sPair, sDead, vNil, vCons, vOf, iSeq, iRange, iVals, pBi, pBm, pMeth, pCall, pNewS, pNewN, pWal, pComp, cTest, cEmit, cFor, cLoop, pDict0, pListRange, pIterNext, pNextCall, opNextCall, opSet0, opAdd, opSub, opMul, opDiv, opMod, opNeg, opEq, opNe, opLt, opGt, opGe, opIsN, opIsNotN, opIn, opNotIn, opItem, opSetItem, opAttrS, opSetS, opAttrN, opSetN, opLen, opSum, opMin2, opMax2, opAppend, opExtend, opClear, opPop, opCount, opGet, opAdd', opTuple, opList, opSorted, opDel, iAdd, AObj.fld, AObj.setFld, setvs, retV, noX, Option.map, Option.getD, ↓reduceIte, Bool.false_eq_true, Bool.not_true, Bool.not_false, List.cons_append, List.nil_append]
    refine ⟨_, lst_of H.h2, ?_⟩
    cases rs' with
    | nil =>
      rw [if_neg (by simp)]
      exact h2 _ fin' I' hf (by simpa using hf2)
    | cons q rs' =>
      rw [if_pos (by simp)]
      have e3 := H.h3
      rw [list_snoc] at e3
      refine ⟨_, I'.l3, _, item_last e3, ?_⟩
      obtain ⟨q1, q2, q3, q4⟩ := H.nx q (List.mem_cons_self ..)
      have hqk : q.v ∈ keys := I'.G.sub _ (by simp)
      refine ⟨q.I, suc q.v, q.p, _, q1, q2, lst_of (H.ext _ _ (hl _ hqk)), ?_⟩
      by_cases hp : q.p < (succ q.v).length
      · have e1 : (intsA (succ q.v))[q.p]? = some (.int (succ q.v)[q.p]) := by simp [hp]
        rw [e1]
        have Hn := H.incIter
        refine h1 _ (⟨q.v, q.p + 1, q.u, q.I⟩ :: rs') fin' (succ q.v)[q.p] ⟨I'.l1, I'.l2, I'.l3, I'.l4, I'.l5, ⟨T, n, ?_, hn, hT⟩, I'.G.inc hp⟩ rfl (hsub _ hqk _ (List.getElem_mem hp)) ?_ hf hf2 ?_
        · simpa using Hn
        · refine ⟨⟨Nat.succ_pos _, by simp, fun j hj u hu => hin'.1 j (by simpa using hj) u hu⟩, hin'.2⟩
        · refine Nat.lt_of_le_of_lt hA2 ?_
          unfold actA; simp only [List.map_cons, List.sum_cons, List.length_cons]; (first | lia | omega)
      · have e1 : (intsA (succ q.v))[q.p]? = none := by simp; (first | lia | omega)
        rw [e1]
        refine ⟨rfl, ?_⟩
        have Hd := H.dropIter
        have e2 := H.h2
        obtain ⟨ep, e5⟩ := H.h5
        rw [list_snoc, intsA, List.map_append] at e2
        have Hd2 := Hd.set2 (intsA (rs'.reverse.map (·.v)))
        obtain ⟨ep5, e55⟩ := Hd2.h5
        have nd := I'.G.nd
        have hnr : q.v ∉ fin' ++ rs'.map (·.v) := (List.nodup_cons.mp ((List.perm_middle).nodup_iff.mp nd)).1
        have d2 := Hd.h2
        rw [list_snoc, intsA, List.map_append] at d2
        refine ⟨_, I'.l5, _, I'.l2, ⟨a2, _, rfl, Hd.h2, rfl⟩, _, _, d2, ?_⟩
        refine ⟨_, ep5, e55, idx_any.mpr (by simp), fun ep' => ?_⟩
        have Hd3 := Hd2.set5 (idxD (rs'.reverse.map (·.v))) ep'
        have d3 := Hd3.h3
        rw [list_snoc, idx_filter (by intro hm; exact hnr (List.mem_append_right _ (by simpa using hm)))]
        have d33 := d3
        rw [list_snoc] at d33
        refine ⟨_, I'.l3, ⟨a3, _, rfl, d3, rfl⟩, _, _, d33, ?_⟩
        have Hd4 := Hd3.set3 (rs'.reverse.map fun q => .ref q.u)
        have G' := I'.G.pop (fun w hw => by
          obtain ⟨j, hj, e⟩ := List.mem_iff_getElem.mp hw
          exact hin'.1 j (by have := I'.G.ps q (List.mem_cons_self ..); (first | lia | omega)) w (by rw [List.getElem?_eq_getElem hj, e]))
        have hlt : actA succ (q :: rs') fin' < actA succ rs' (fin' ++ [q.v]) := by
          have := I'.G.ps q (List.mem_cons_self ..)
          unfold actA
          simp only [List.map_cons, List.sum_cons, List.length_cons, List.map_append, List.sum_append, List.length_append, List.map_nil, List.sum_nil, List.length_nil]; (first | lia | omega)
        have hb := G'.bound.1
        refine ⟨actB keys succ - actA succ rs' (fin' ++ [q.v]), by (first | lia | omega), rs', fin' ++ [q.v], ⟨I'.l1, I'.l2, I'.l3, I'.l4, I'.l5, ⟨T, n, Hd4, by simpa [Nat.add_assoc, Nat.add_comm 1] using hn, fun k => (hT k).trans (by simp)⟩, G'⟩, ?_, fun k hk => List.mem_append_left _ (hf k hk), fun k hk => by have := hf2 k hk; simpa using this, by (first | lia | omega), by (first | lia | omega)⟩
        obtain ⟨c1, c2⟩ := hin'
        cases rs' with
        | nil => trivial
        | cons r rs'' =>
          obtain ⟨⟨f1, f2, f3⟩, f4⟩ := c2
          refine ⟨fun j hj u hu => ?_, f4.mono fun k hk => List.mem_append_left _ hk⟩
          by_cases ej : j < r.p - 1
          · exact List.mem_append_left _ (f3 j ej u hu)
          · have : j = r.p - 1 := by (first | lia | omega)
            rw [this, f2] at hu
            cases hu
            exact List.mem_append_right _ (List.mem_singleton.mpr rfl)

theorem hasIdx {l : List Int} {k : Int} : (idxD l).any (·.1 == k) = decide (k ∈ l) := by
  rw [Bool.eq_iff_iff, decide_eq_true_eq, ← idx_any]
  simp
theorem idx_find {l : List Int} {k : Int} (h : k ∈ l) : ∃ i : Nat, i < l.length ∧ (idxD l).find? (fun e => e.1 = k) = some (k, .int i) := by
  cases e : (idxD l).find? (fun e => e.1 = k) with
  | none =>
    rw [List.find?_eq_none] at e
    have := idx_any.mpr h
    rw [List.any_eq_true] at this
    obtain ⟨x, hx, hk⟩ := this
    exact absurd hk (e x hx)
  | some p =>
    have h1 := List.find?_some e
    have h2 := List.mem_of_find?_eq_some e
    obtain ⟨q, hq, rfl⟩ := List.mem_map.mp h2
    simp only [decide_eq_true_eq] at h1
    have h3 := List.snd_lt_of_mem_zipIdx hq
    exact ⟨q.2, by (first | lia | omega), by rw [← h1]⟩
theorem item_dict {σ : St} {a : Addr} {es : List (Int × AV)} {ep : Nat} {k : Int} (h : σ.hp a = some (.dict es ep)) : σ.item a k = (es.find? fun e => e.1 = k).map (·.2) := by unfold St.item; rw [h]
theorem Srt.item {σ : St} (S : Srt σ.hp own x d n2i rec suc keys cnt succ rdy np nf) {k : Int} (hk : k ∈ keys) : σ.item n2i k = some (.ref (rec k)) := by
  obtain ⟨ep, en⟩ := S.hn
  rw [item_dict en, find_rec hk]; rfl
theorem while_spec {σ : St} {Q : Fl → St → Prop} {E : Ex → St → Prop} {a2 a3 a4 a5 : Addr} {v : Int} {fin : List Int} (S : Srt hp own x d n2i rec suc keys cnt succ rdy np nf) (hsub : ∀ v ∈ keys, ∀ w ∈ succ v, w ∈ keys) (hz : keys.length < 1000)
    (I : FI hp n2i a2 a3 a4 a5 suc keys succ σ [] fin) (hv : σ.loc 6 = some (.int v)) (hvk : v ∈ keys)
    (h1 : ∀ σ' l c, Ext hp σ'.hp → hp l = none → σ'.hp l = some (.list c) → c ≠ [] → (∃ k ∈ keys, TC succ k k) → Q (.ret (.ref l)) σ')
    (h2 : ∀ σ' fin', FI hp n2i a2 a3 a4 a5 suc keys succ σ' [] fin' → (∀ k, k ∈ fin → k ∈ fin') → v ∈ fin' → Q .next σ') :
    fcWhile Q E σ := by
  refine ⟨fun m σ' => ∃ rs' fin' w, FI hp n2i a2 a3 a4 a5 suc keys succ σ' rs' fin' ∧ σ'.loc 6 = some (.int w) ∧ w ∈ keys ∧ Chain succ fin' rs' w ∧ (∀ k, k ∈ fin → k ∈ fin') ∧ (v ∈ fin' ++ rs'.map (·.v) ∨ w = v) ∧ actA succ rs' fin' + m = actB keys succ, ?_, ?_⟩
  · exact ⟨actB keys succ - actA succ [] fin, [], fin, v, I, hv, hvk, trivial, fun _ h => h, .inr rfl, by have := I.G.bound.1; (first | lia | omega)⟩
  · rintro m ⟨l, g⟩ ⟨rs, fin', w, I', hw, hwk, hch, hf, hv', hA⟩
    obtain ⟨T, n, H, hn, hT⟩ := I'.H
    have S' := S.ext H.ext
    unfold fcTop
    dsimp only [pName, pInt, pBool, pNone, pBin, pUn, tOf, tNot, tAnd, tOr, pIf, lNil, lCons, lStar, starOf, pList, pTuple, pTruth, pSlice, sAssign, aName, aTuple, aItem, aAttrS, aAttrN, sAugName, sAugItem, sAugS, sAugN, sNil, sSeq, sIf, sRet, sFlow, sExpr, sFor, sWhile, sTry, sRaise, sDel, sPair, sDead, vNil, vCons, vOf, iSeq, iRange, iVals, pBi, pBm, pMeth, pCall, pNewS, pNewN, pWal, pComp, cTest, cEmit, cFor, cLoop, pDict0, pListRange, pIterNext, pNextCall, opNextCall, opSet0, opAdd, opSub, opMul, opDiv, opMod, opNeg, opEq, opNe, opLt, opGt, opGe, opIsN, opIsNotN, opIn, opNotIn, opItem, opSetItem, opAttrS, opSetS, opAttrN, opSetN, opLen, opSum, opMin2, opMax2, opAppend, opExtend, opClear, opPop, opCount, opGet, opAdd', opTuple, opList, opSorted, opDel, iAdd, AObj.fld, AObj.setFld, setvs, retV, noX, Option.map, Option.getD, ↓reduceIte, Bool.false_eq_true, Bool.not_true, Bool.not_false, List.cons_append, List.nil_append]
    refine ⟨_, hw, _, I'.l4, ?_⟩
    refine .inr ⟨T w, hasKey_set H.h4, ?_⟩
    dsimp only [pName, pInt, pBool, pNone, pBin, pUn, tOf, tNot, tAnd, tOr, pIf, lNil, lCons, lStar, starOf, pList, pTuple, pTruth, pSlice, sAssign, aName, aTuple, aItem, aAttrS, aAttrN, sAugName, sAugItem, sAugS, sAugN, sNil, sSeq, sIf, sRet, sFlow, sExpr, sFor, sWhile, sTry, sRaise, sDel, sPair, sDead, vNil, vCons, vOf, iSeq, iRange, iVals, pBi, pBm, pMeth, pCall, pNewS, pNewN, pWal, pComp, cTest, cEmit, cFor, cLoop, pDict0, pListRange, pIterNext, pNextCall, opNextCall, opSet0, opAdd, opSub, opMul, opDiv, opMod, opNeg, opEq, opNe, opLt, opGt, opGe, opIsN, opIsNotN, opIn, opNotIn, opItem, opSetItem, opAttrS, opSetS, opAttrN, opSetN, opLen, opSum, opMin2, opMax2, opAppend, opExtend, opClear, opPop, opCount, opGet, opAdd', opTuple, opList, opSorted, opDel, iAdd, AObj.fld, AObj.setFld, setvs, retV, noX, Option.map, Option.getD, ↓reduceIte, Bool.false_eq_true, Bool.not_true, Bool.not_false, List.cons_append, List.nil_append]
    by_cases hs : T w = true
    · rw [if_pos hs]
      have hs' := (hT w).mp hs
      obtain ⟨ep5, e5⟩ := H.h5
      refine ⟨_, hw, _, I'.l5, .inr ⟨_, hasKey_dict e5, ?_⟩⟩
      rw [hasIdx]
      dsimp only [pName, pInt, pBool, pNone, pBin, pUn, tOf, tNot, tAnd, tOr, pIf, lNil, lCons, lStar, starOf, pList, pTuple, pTruth, pSlice, sAssign, aName, aTuple, aItem, aAttrS, aAttrN, sAugName, sAugItem, sAugS, sAugN, sNil, sSeq, sIf, sRet, sFlow, sExpr, sFor, sWhile, sTry, sRaise, sDel, sPair, sDead, vNil, vCons, vOf, iSeq, iRange, iVals, pBi, pBm, pMeth, pCall, pNewS, pNewN, pWal, pComp, cTest, cEmit, cFor, cLoop, pDict0, pListRange, pIterNext, pNextCall, opNextCall, opSet0, opAdd, opSub, opMul, opDiv, opMod, opNeg, opEq, opNe, opLt, opGt, opGe, opIsN, opIsNotN, opIn, opNotIn, opItem, opSetItem, opAttrS, opSetS, opAttrN, opSetN, opLen, opSum, opMin2, opMax2, opAppend, opExtend, opClear, opPop, opCount, opGet, opAdd', opTuple, opList, opSorted, opDel, iAdd, AObj.fld, AObj.setFld, setvs, retV, noX, Option.map, Option.getD, ↓reduceIte, Bool.false_eq_true, Bool.not_true, Bool.not_false, List.cons_append, List.nil_append]
      by_cases hr : w ∈ rs.reverse.map (·.v)
      · rw [if_pos (by simpa using hr)]
        obtain ⟨i, hi, ei⟩ := idx_find hr
        refine ⟨_, I'.l2, _, I'.l5, _, hw, .int i, by rw [item_dict e5, ei]; rfl, a2, some i, none, _, rfl, rfl, rfl, lst_of H.h2, fun b hb => ?_⟩
        refine ⟨.int w, hw, by simp, fun c hc => ?_⟩
        refine ⟨_, _, lst_of (upd_at (ne_of (upd_self ..) hc) (upd_self ..)), lst_of (upd_self ..), ?_, fun a ha => ?_⟩
        · unfold pickA
          have h1 := I'.G.bound.2
          simp only [List.length_take, List.length_drop, List.length_map, List.length_reverse, List.length_cons, List.length_nil]
          (first | lia | omega)
        · have x1 := H.ext.trans ((Ext.new (.list (pickA (intsA (rs.reverse.map (·.v))) (some (i : Int)) none)) hb).trans (Ext.new (.list [.int w]) hc))
          refine h1 _ a _ (x1.trans (Ext.new _ ha)) (x1.none ha) (upd_self ..) (by simp) ⟨w, hwk, hch.tc (by simpa using hr)⟩
      · rw [if_neg (by simpa using hr)]
        have hwf : w ∈ fin' := by
          rcases List.mem_append.mp hs' with h | h
          · exact h
          · exact absurd (by simpa using h) hr
        refine inner_spec S.hs hsub hz I' ?_ ?_ ?_
        · cases rs with
          | nil => trivial
          | cons r rs' =>
            obtain ⟨⟨f1, f2, f3⟩, f4⟩ := hch
            refine ⟨fun j hj u hu => ?_, f4⟩
            by_cases ej : j < r.p - 1
            · exact f3 j ej u hu
            · have : j = r.p - 1 := by (first | lia | omega)
              rw [this, f2] at hu
              cases hu
              exact hwf
        · intro σ2 rs2 fin2 w2 I2 hw2 hwk2 hch2 hf2 hf3 hA2
          have := I2.G.bound.1
          refine ⟨actB keys succ - actA succ rs2 fin2, by (first | lia | omega), rs2, fin2, w2, I2, hw2, hwk2, hch2, fun k hk => hf2 k (hf k hk), .inl (hf3 v ?_), by (first | lia | omega)⟩
          rcases hv' with h | h
          · exact h
          · rw [← h]; exact List.mem_append_left _ hwf
        · intro σ2 fin2 I2 hf2 hf3
          refine h2 _ fin2 I2 (fun k hk => hf2 k (hf k hk)) (hf3 v ?_)
          rcases hv' with h | h
          · exact h
          · rw [← h]; exact List.mem_append_left _ hwf
    · rw [if_neg hs]
      have hs' : w ∉ fin' ++ rs.map (·.v) := fun h => hs ((hT w).mpr h)
      have hb := I'.G.bound
      refine ⟨_, I'.l4, ⟨a4, _, rfl, H.h4, rfl⟩, _, hw, T, n, H.h4, by (first | lia | omega), ?_⟩
      have H1 := H.set4 (fun k' => T k' || decide (k' = w)) (if T w = true then n else n + 1)
      have S1 := S.ext H1.ext
      obtain ⟨dk, ek, qk⟩ := S1.hr w hwk
      refine ⟨_, I'.l3, ⟨a3, _, rfl, H1.h3, rfl⟩, _, I'.l1, _, hw, _, S1.item hwk, dk, _, _, ek, qk, rfl, _, _, rfl, lst_of (S1.hs w hwk), fun Ia ua hIu hI hu => ?_⟩
      have H2 := H1.newIter hIu hI hu w
      refine ⟨_, H2.h3, ?_, ?_⟩
      · simp only [List.length_map, List.length_reverse]; (first | lia | omega)
      have H3 := H2.set3 (rs.reverse.map (fun q => .ref q.u) ++ [.ref ua])
      obtain ⟨ep5, e5⟩ := H3.h5
      refine ⟨_, I'.l2, .inl ⟨_, lst_of H3.h2, _, I'.l5, _, hw, .inr ⟨_, ep5, e5, ?_, fun ep' => ?_⟩⟩⟩
      · simp only [idxD, List.length_map, List.length_zipIdx, List.length_reverse]; (first | lia | omega)
      have e6 : storedA (idxD (rs.reverse.map (·.v))) w (.int ((intsA (rs.reverse.map (·.v))).length)) = idxD (rs.reverse.map (·.v) ++ [w]) := by
        unfold storedA
        rw [if_neg (by rw [idx_any]; intro hm; exact hs' (List.mem_append_right _ (by simpa using hm))), idx_snoc]
        simp
      rw [e6]
      have H4 := H3.set5 (idxD (rs.reverse.map (·.v) ++ [w])) ep'
      refine ⟨_, I'.l2, ⟨a2, _, rfl, H4.h2, rfl⟩, _, hw, _, H4.h2, ?_, ?_⟩
      · simp only [List.length_map, List.length_reverse]; (first | lia | omega)
      have H5 := H4.set2 (intsA (rs.reverse.map (·.v)) ++ [.int w])
      have G' := I'.G.push hwk hs' ua Ia
      have hA' : actA succ (⟨w, 0, ua, Ia⟩ :: rs) fin' = actA succ rs fin' + 1 := by
        unfold actA; simp only [List.map_cons, List.sum_cons, List.length_cons]; (first | lia | omega)
      refine inner_spec (rs := ⟨w, 0, ua, Ia⟩ :: rs) (fin := fin') S.hs hsub hz ⟨I'.l1, I'.l2, I'.l3, I'.l4, I'.l5, ⟨fun k' => T k' || decide (k' = w), if T w = true then n else n + 1, ?_, ?_, ?_⟩, G'⟩ ⟨fun j hj => absurd hj (Nat.not_lt_zero _), hch⟩ ?_ ?_
      · have e7 : intsA (rs.reverse.map (·.v) ++ [w]) = intsA (rs.reverse.map (·.v)) ++ [.int w] := by simp
        rw [list_snoc, list_snoc, e7]
        exact H5
      · rw [if_neg hs]; simp only [List.length_cons]; (first | lia | omega)
      · intro k
        rw [Bool.or_eq_true, hT, decide_eq_true_eq]
        simp only [List.mem_append, List.map_cons, List.mem_cons]
        constructor
        · rintro ((h | h) | h)
          · exact .inl h
          · exact .inr (.inr h)
          · exact .inr (.inl h)
        · rintro (h | h | h)
          · exact .inl (.inl h)
          · exact .inr h
          · exact .inl (.inr h)
      · intro σ2 rs2 fin2 w2 I2 hw2 hwk2 hch2 hf2 hf3 hA2
        have := I2.G.bound.1
        refine ⟨actB keys succ - actA succ rs2 fin2, by (first | lia | omega), rs2, fin2, w2, I2, hw2, hwk2, hch2, fun k hk => hf2 k (hf k hk), .inl (hf3 v ?_), by (first | lia | omega)⟩
        rcases hv' with h | h
        · rcases List.mem_append.mp h with h | h
          · exact List.mem_append_left _ h
          · exact List.mem_append_right _ (List.mem_cons_of_mem _ h)
        · rw [← h]; exact List.mem_append_right _ (List.mem_cons_self ..)
      · intro σ2 fin2 I2 hf2 hf3
        refine h2 _ fin2 I2 (fun k hk => hf2 k (hf k hk)) (hf3 v ?_)
        rcases hv' with h | h
        · rcases List.mem_append.mp h with h | h
          · exact List.mem_append_left _ h
          · exact List.mem_append_right _ (List.mem_cons_of_mem _ h)
        · rw [← h]; exact List.mem_append_right _ (List.mem_cons_self ..)

theorem rank_of {fin : List Int} (hnd : fin.Nodup) (hall : ∀ k ∈ keys, k ∈ fin) (fo : ∀ l1 v l2, fin = l1 ++ v :: l2 → ∀ w ∈ succ v, w ∈ l1) : ∃ r : Int → Nat, ∀ v ∈ keys, ∀ w ∈ succ v, r w < r v := by
  refine ⟨fun k => fin.idxOf k, fun v hv w hw => ?_⟩
  obtain ⟨l1, l2, e⟩ := List.append_of_mem (hall v hv)
  have h1 := fo l1 v l2 e w hw
  subst e
  have nv : v ∉ l1 := by
    rw [List.nodup_append] at hnd
    exact fun h => hnd.2.2 v h v (List.mem_cons_self ..) rfl
  show List.idxOf w (l1 ++ v :: l2) < List.idxOf v (l1 ++ v :: l2)
  rw [List.idxOf_append, List.idxOf_append, if_pos h1, if_neg nv]
  have := List.idxOf_lt_length_of_mem h1
  (first | lia | omega)
theorem cycle_spec {Q : AV → AH → Prop} {E : Ex → AH → Prop} (S : Srt hp own x d n2i rec suc keys cnt succ rdy np nf) (hsub : ∀ v ∈ keys, ∀ w ∈ succ v, w ∈ keys) (hz : keys.length < 1000)
    (h0 : ∀ hp', Ext hp hp' → (∃ r : Int → Nat, ∀ v ∈ keys, ∀ w ∈ succ v, r w < r v) → Q .none hp')
    (h1 : ∀ hp' l c, Ext hp hp' → hp l = none → hp' l = some (.list c) → c ≠ [] → (∃ k ∈ keys, TC succ k k) → Q (.ref l) hp') :
    fp_find_cycle [.ref x] Q E hp := by
  refine ⟨rfl, ?_⟩
  obtain ⟨ep, en⟩ := S.hn
  rw [fc_eq]
  dsimp only [pName, pInt, pBool, pNone, pBin, pUn, tOf, tNot, tAnd, tOr, pIf, lNil, lCons, lStar, starOf, pList, pTuple, pTruth, pSlice, sAssign, aName, aTuple, aItem, aAttrS, aAttrN, sAugName, sAugItem, sAugS, sAugN, sNil, sSeq, sIf, sRet, sFlow, sExpr, sFor, sWhile, sTry, sRaise, sDel, sPair, sDead, vNil, vCons, vOf, iSeq, iRange, iVals, pBi, pBm, pMeth, pCall, pNewS, pNewN, pWal, pComp, cTest, cEmit, cFor, cLoop, pDict0, pListRange, pIterNext, pNextCall, opNextCall, opSet0, opAdd, opSub, opMul, opDiv, opMod, opNeg, opEq, opNe, opLt, opGt, opGe, opIsN, opIsNotN, opIn, opNotIn, opItem, opSetItem, opAttrS, opSetS, opAttrN, opSetN, opLen, opSum, opMin2, opMax2, opAppend, opExtend, opClear, opPop, opCount, opGet, opAdd', opTuple, opList, opSorted, opDel, iAdd, AObj.fld, AObj.setFld, setvs, retV, noX, Option.map, Option.getD, ↓reduceIte, Bool.false_eq_true, Bool.not_true, Bool.not_false, List.cons_append, List.nil_append]
  refine ⟨.ref x, rfl, d, _, _, S.hx, S.hd, rfl, ?_⟩
  dsimp only [pName, pInt, pBool, pNone, pBin, pUn, tOf, tNot, tAnd, tOr, pIf, lNil, lCons, lStar, starOf, pList, pTuple, pTruth, pSlice, sAssign, aName, aTuple, aItem, aAttrS, aAttrN, sAugName, sAugItem, sAugS, sAugN, sNil, sSeq, sIf, sRet, sFlow, sExpr, sFor, sWhile, sTry, sRaise, sDel, sPair, sDead, vNil, vCons, vOf, iSeq, iRange, iVals, pBi, pBm, pMeth, pCall, pNewS, pNewN, pWal, pComp, cTest, cEmit, cFor, cLoop, pDict0, pListRange, pIterNext, pNextCall, opNextCall, opSet0, opAdd, opSub, opMul, opDiv, opMod, opNeg, opEq, opNe, opLt, opGt, opGe, opIsN, opIsNotN, opIn, opNotIn, opItem, opSetItem, opAttrS, opSetS, opAttrN, opSetN, opLen, opSum, opMin2, opMax2, opAppend, opExtend, opClear, opPop, opCount, opGet, opAdd', opTuple, opList, opSorted, opDel, iAdd, AObj.fld, AObj.setFld, setvs, retV, noX, Option.map, Option.getD, ↓reduceIte, Bool.false_eq_true, Bool.not_true, Bool.not_false, List.cons_append, List.nil_append]
  refine ⟨by decide, fun a2 z2 => ⟨by decide, fun a3 z3 => fun a4 z4 a5 ep5 z5 => ?_⟩⟩
  have H : FH hp (upd (upd (upd (upd hp a2 (.list [])) a3 (.list [])) a4 (.set (fun _ => false) 0)) a5 (.dict [] ep5)) a2 a3 a4 a5 suc [] [] (fun _ => false) 0 [] [] := by
    have x2 : Ext hp (upd hp a2 (.list [])) := Ext.new _ z2
    have x3 := x2.trans (Ext.new (.list []) z3)
    have x4 := x3.trans (Ext.new (.set (fun _ => false) 0) z4)
    have x5 := x4.trans (Ext.new (.dict [] ep5) z5)
    have e2 := Ext.new (.dict [] ep5) z5 _ _ (Ext.new (.set (fun _ => false) 0) z4 _ _ (Ext.new (.list []) z3 _ _ (upd_self hp a2 (.list []))))
    have e3 := Ext.new (.dict [] ep5) z5 _ _ (Ext.new (.set (fun _ => false) 0) z4 _ _ (upd_self _ a3 (.list [])))
    exact { ext := x5, h2 := e2, h3 := e3, h4 := Ext.new (.dict [] ep5) z5 _ _ (upd_self ..), h5 := ⟨ep5, upd_self ..⟩, nx := nofun, nd := List.nodup_nil, n23 := ne_of (upd_self ..) z3, z2 := z2, z3 := x2.none z3, z4 := x3.none z4, z5 := x4.none z5 }
  generalize upd (upd (upd (upd hp a2 (.list [])) a3 (.list [])) a4 (.set (fun _ => false) 0)) a5 (.dict [] ep5) = hp1 at H
  clear z2 z3 z4 z5
  refine ⟨_, rfl, n2i, rfl, .inr (.inr ⟨_, ep, H.ext _ _ en, ?_⟩)⟩
  refine ⟨fun i σ => ∃ fin, FI hp n2i a2 a3 a4 a5 suc keys succ σ [] fin ∧ ∀ k ∈ keys.take i, k ∈ fin, ?_, ?_⟩
  · refine ⟨[], ⟨rfl, rfl, rfl, rfl, rfl, ⟨_, _, H, Nat.le_refl _, by simp⟩, ⟨by simp, by simp, by simp, by simp⟩⟩, by simp⟩
  · rintro i ⟨l, g⟩ ⟨fin, I, hk⟩
    have hK : (keys.map fun k => (k, AV.ref (rec k))).map (·.1) = keys := by rw [List.map_map]; exact List.map_id keys
    obtain ⟨T, n, H', hn, hT⟩ := I.H
    refine ⟨H'.ext _ _ en, ?_⟩
    rw [hK]
    by_cases hi : i < keys.length
    · have e1 : (intsA keys)[i]? = some (.int keys[i]) := by simp [hi]
      rw [e1]
      dsimp only [pName, pInt, pBool, pNone, pBin, pUn, tOf, tNot, tAnd, tOr, pIf, lNil, lCons, lStar, starOf, pList, pTuple, pTruth, pSlice, sAssign, aName, aTuple, aItem, aAttrS, aAttrN, sAugName, sAugItem, sAugS, sAugN, sNil, sSeq, sIf, sRet, sFlow, sExpr, sFor, sWhile, sTry, sRaise, sDel, sPair, sDead, vNil, vCons, vOf, iSeq, iRange, iVals, pBi, pBm, pMeth, pCall, pNewS, pNewN, pWal, pComp, cTest, cEmit, cFor, cLoop, pDict0, pListRange, pIterNext, pNextCall, opNextCall, opSet0, opAdd, opSub, opMul, opDiv, opMod, opNeg, opEq, opNe, opLt, opGt, opGe, opIsN, opIsNotN, opIn, opNotIn, opItem, opSetItem, opAttrS, opSetS, opAttrN, opSetN, opLen, opSum, opMin2, opMax2, opAppend, opExtend, opClear, opPop, opCount, opGet, opAdd', opTuple, opList, opSorted, opDel, iAdd, AObj.fld, AObj.setFld, setvs, retV, noX, Option.map, Option.getD, ↓reduceIte, Bool.false_eq_true, Bool.not_true, Bool.not_false, List.cons_append, List.nil_append]
      refine ⟨_, rfl, _, I.l4, ?_⟩
      dsimp only [pName, pInt, pBool, pNone, pBin, pUn, tOf, tNot, tAnd, tOr, pIf, lNil, lCons, lStar, starOf, pList, pTuple, pTruth, pSlice, sAssign, aName, aTuple, aItem, aAttrS, aAttrN, sAugName, sAugItem, sAugS, sAugN, sNil, sSeq, sIf, sRet, sFlow, sExpr, sFor, sWhile, sTry, sRaise, sDel, sPair, sDead, vNil, vCons, vOf, iSeq, iRange, iVals, pBi, pBm, pMeth, pCall, pNewS, pNewN, pWal, pComp, cTest, cEmit, cFor, cLoop, pDict0, pListRange, pIterNext, pNextCall, opNextCall, opSet0, opAdd, opSub, opMul, opDiv, opMod, opNeg, opEq, opNe, opLt, opGt, opGe, opIsN, opIsNotN, opIn, opNotIn, opItem, opSetItem, opAttrS, opSetS, opAttrN, opSetN, opLen, opSum, opMin2, opMax2, opAppend, opExtend, opClear, opPop, opCount, opGet, opAdd', opTuple, opList, opSorted, opDel, iAdd, AObj.fld, AObj.setFld, setvs, retV, noX, Option.map, Option.getD, ↓reduceIte, Bool.false_eq_true, Bool.not_true, Bool.not_false, List.cons_append, List.nil_append]
      refine .inr ⟨T keys[i], hasKey_set H'.h4, ?_⟩
      have I' : FI hp n2i a2 a3 a4 a5 suc keys succ ⟨setv l 6 (.int keys[i]), g⟩ [] fin := ⟨I.l1, I.l2, I.l3, I.l4, I.l5, I.H, I.G⟩
      by_cases hs : T keys[i] = true
      · rw [if_pos hs]
        refine ⟨fin, I', fun k hk' => ?_⟩
        rw [take_next hi] at hk'
        rcases List.mem_append.mp hk' with h | h
        · exact hk k h
        · rw [List.mem_singleton.mp h]; simpa using (hT _).mp hs
      · rw [if_neg hs]
        refine while_spec S hsub hz I' rfl (List.getElem_mem hi) ?_ ?_
        · intro σ' l c x1 x2 x3 x4 x5
          exact h1 _ l c x1 x2 x3 x4 x5
        · intro σ' fin' I2 hf hv
          refine ⟨fin', I2, fun k hk' => ?_⟩
          rw [take_next hi] at hk'
          rcases List.mem_append.mp hk' with h | h
          · exact hf k (hk k h)
          · rw [List.mem_singleton.mp h]; exact hv
    · have e1 : (intsA keys)[i]? = none := by simp; (first | lia | omega)
      rw [e1]
      refine h0 _ H'.ext (rank_of (by simpa using I.G.nd) (fun k hk' => hk k (by rw [List.take_of_length_le (by (first | lia | omega))]; exact hk')) I.G.fo)
end
end
section
/-- how many steps lead to k from names that are not done -/
noncomputable def ind (keys : List Int) (succ : Int → List Int) (don : Int → Bool) (k : Int) : Nat := (keys.map fun v => if don v then 0 else (succ v).count k).sum
theorem sum_off {f : Int → Nat} {v : Int} : ∀ {keys : List Int}, keys.Nodup → v ∈ keys → (keys.map f).sum = (keys.map fun u => if u = v then 0 else f u).sum + f v
  | [], _, h => by cases h
  | a :: l, hn, h => by
    rw [List.nodup_cons] at hn
    simp only [List.map_cons, List.sum_cons]
    by_cases e : a = v
    · subst e
      have : (l.map fun u => if u = a then 0 else f u) = l.map f := List.map_congr_left fun u hu => if_neg fun q => hn.1 (by rw [← q]; exact hu)
      rw [this, if_pos rfl]; (first | lia | omega)
    · rw [if_neg e]
      have hv : v ∈ l := by rcases List.mem_cons.mp h with q | q; exact absurd q.symm e; exact q
      have := sum_off (f := f) hn.2 hv
      (first | lia | omega)
noncomputable def setB (f : Int → Bool) (k : Int) (b : Bool) : Int → Bool := fun j => if j = k then b else f j
theorem ind_done {keys : List Int} {succ : Int → List Int} {don : Int → Bool} {v k : Int} (hn : keys.Nodup) (hv : v ∈ keys) (hd : don v = false) : ind keys succ don k = ind keys succ (setB don v true) k + (succ v).count k := by
  unfold ind
  rw [sum_off hn hv, hd]
  simp only [Bool.false_eq_true, if_false]
  congr 2
  refine List.map_congr_left fun u _ => ?_
  unfold setB
  by_cases e : u = v
  · rw [if_pos e, if_pos e]; rfl
  · rw [if_neg e, if_neg e]
theorem sum_ge {f : Int → Nat} {v : Int} {keys : List Int} (hv : v ∈ keys) : f v ≤ (keys.map f).sum := by
  induction keys with
  | nil => cases hv
  | cons a l ih =>
    simp only [List.map_cons, List.sum_cons]
    rcases List.mem_cons.mp hv with rfl | h
    · (first | lia | omega)
    · have := ih h; (first | lia | omega)
theorem ind_zero {keys : List Int} {succ : Int → List Int} {don : Int → Bool} {k : Int} : ind keys succ don k = 0 ↔ ∀ v ∈ keys, k ∈ succ v → don v = true := by
  unfold ind
  rw [List.sum_eq_zero_iff_forall_eq_nat]
  constructor
  · intro h v hv hk
    have := h _ (List.mem_map_of_mem hv)
    cases e : don v with
    | true => rfl
    | false =>
      rw [e] at this
      simp only [Bool.false_eq_true, if_false, List.count_eq_zero] at this
      exact absurd hk this
  · intro h n hn
    obtain ⟨v, hv, rfl⟩ := List.mem_map.mp hn
    cases e : don v with
    | true => rfl
    | false =>
      simp only [Bool.false_eq_true, if_false, List.count_eq_zero]
      intro hk
      rw [h v hv hk] at e; cases e
noncomputable def cntOf (keys : List Int) (succ : Int → List Int) (don out : Int → Bool) (k : Int) : Int := if don k then -2 else if out k then -1 else ind keys succ don k
/-- a sorter behind prepare -/
structure Run (hp : AH) (own : Addr → Prop) (x d n2i : Addr) (rec suc : Int → Addr) (keys : List Int) (succ : Int → List Int) (don out : Int → Bool) (rl : Addr) (R : List Int) : Prop where
  S : Srt hp own x d n2i rec suc keys (cntOf keys succ don out) succ (.ref rl) (keys.countP fun k => don k || out k) (keys.countP don)
  hrl : hp rl = some (.list (intsA R))
  orl : own rl
  nrl : ∀ k ∈ keys, suc k ≠ rl
  nd : R.Nodup
  mem : ∀ k, k ∈ R ↔ k ∈ keys ∧ don k = false ∧ out k = false ∧ ind keys succ don k = 0
  ko : ∀ k, out k = true → k ∈ keys ∧ don k = false ∧ ind keys succ don k = 0
  kd : ∀ k, don k = true → k ∈ keys ∧ ind keys succ don k = 0
  sub : ∀ v ∈ keys, ∀ w ∈ succ v, w ∈ keys
  small : keys.length < 1000
theorem ready_list {keys : List Int} {p : Int → Bool} : ∀ i, (keys.take (i + 1)).filter p = (keys.take i).filter p ++ (match keys[i]? with | some k => if p k then [k] else [] | none => []) := fun i => by
  cases e : keys[i]? with
  | none =>
    have : keys.length ≤ i := by simpa using e
    rw [List.take_of_length_le this, List.take_of_length_le (by (first | lia | omega))]; simp
  | some k =>
    obtain ⟨h, rfl⟩ := List.getElem?_eq_some_iff.mp e
    rw [take_next h, List.filter_append]
    congr 1
    by_cases q : p keys[i] = true
    · simp [q]
    · simp [q]
section
variable {hp : AH} {own : Addr → Prop} {x d n2i : Addr} {rec suc : Int → Addr} {keys : List Int} {cnt : Int → Int} {succ : Int → List Int} {rdy : AV} {np nf : Int}
noncomputable def fcPrep : SP := (sIf (tOf (pName 1)) (sRaise .cycle (vCons vNil (vCons (vOf (pName 1)) vNil))) sNil)
theorem prep_eq : pt_prepare = (sSeq (sIf (tOf (pBin opIsNotN (pUn (opAttrS 1) (pName 0)) pNone)) sDead sNil) (sSeq (sAssign (pComp [none] (iVals (pUn (opAttrS 0) (pName 0))) (aName 0) (cTest (some (tOf (pBin opEq (pUn (opAttrN 1) (pName 0)) (pInt 0)))) (cEmit (pUn (opAttrN 0) (pName 0))))) (aAttrS 1 (pName 0))) (sSeq (sAssign (pMeth (pName 0) fp_find_cycle lNil) (aName 1)) fcPrep))) := rfl
theorem prep_spec {Q : AV → AH → Prop} {E : Ex → AH → Prop} (S : Srt hp own x d n2i rec suc keys cnt succ .none 0 0) (hc : ∀ k ∈ keys, cnt k = ind keys succ (fun _ => false) k) (hsub : ∀ v ∈ keys, ∀ w ∈ succ v, w ∈ keys) (hz : keys.length < 1000)
    (h0 : ∀ hp' own' rl R, Run hp' own' x d n2i rec suc keys succ (fun _ => false) (fun _ => false) rl R → Frm hp own hp' own' → (∃ r : Int → Nat, ∀ v ∈ keys, ∀ w ∈ succ v, r w < r v) → Q .none hp')
    (h1 : ∀ hp' own' rl R, Run hp' own' x d n2i rec suc keys succ (fun _ => false) (fun _ => false) rl R → Frm hp own hp' own' → (∃ k ∈ keys, TC succ k k) → E .cycle hp') :
    fp_prepare [.ref x] Q E hp := by
  refine ⟨rfl, ?_⟩
  obtain ⟨ep, en⟩ := S.hn
  rw [prep_eq]
  dsimp only [pName, pInt, pBool, pNone, pBin, pUn, tOf, tNot, tAnd, tOr, pIf, lNil, lCons, lStar, starOf, pList, pTuple, pTruth, pSlice, sAssign, aName, aTuple, aItem, aAttrS, aAttrN, sAugName, sAugItem, sAugS, sAugN, sNil, sSeq, sIf, sRet, sFlow, sExpr, sFor, sWhile, sTry, sRaise, sDel, sPair, sDead, vNil, vCons, vOf, iSeq, iRange, iVals, pBi, pBm, pMeth, pCall, pNewS, pNewN, pWal, pComp, cTest, cEmit, cFor, cLoop, pDict0, pListRange, pIterNext, pNextCall, opNextCall, opSet0, opAdd, opSub, opMul, opDiv, opMod, opNeg, opEq, opNe, opLt, opGt, opGe, opIsN, opIsNotN, opIn, opNotIn, opItem, opSetItem, opAttrS, opSetS, opAttrN, opSetN, opLen, opSum, opMin2, opMax2, opAppend, opExtend, opClear, opPop, opCount, opGet, opAdd', opTuple, opList, opSorted, opDel, iAdd, AObj.fld, AObj.setFld, setvs, retV, noX, Option.map, Option.getD, ↓reduceIte, Bool.false_eq_true, Bool.not_true, Bool.not_false, List.cons_append, List.nil_append]
  refine ⟨.ref x, rfl, d, _, _, S.hx, S.hd, rfl, ?_⟩
  dsimp only [pName, pInt, pBool, pNone, pBin, pUn, tOf, tNot, tAnd, tOr, pIf, lNil, lCons, lStar, starOf, pList, pTuple, pTruth, pSlice, sAssign, aName, aTuple, aItem, aAttrS, aAttrN, sAugName, sAugItem, sAugS, sAugN, sNil, sSeq, sIf, sRet, sFlow, sExpr, sFor, sWhile, sTry, sRaise, sDel, sPair, sDead, vNil, vCons, vOf, iSeq, iRange, iVals, pBi, pBm, pMeth, pCall, pNewS, pNewN, pWal, pComp, cTest, cEmit, cFor, cLoop, pDict0, pListRange, pIterNext, pNextCall, opNextCall, opSet0, opAdd, opSub, opMul, opDiv, opMod, opNeg, opEq, opNe, opLt, opGt, opGe, opIsN, opIsNotN, opIn, opNotIn, opItem, opSetItem, opAttrS, opSetS, opAttrN, opSetN, opLen, opSum, opMin2, opMax2, opAppend, opExtend, opClear, opPop, opCount, opGet, opAdd', opTuple, opList, opSorted, opDel, iAdd, AObj.fld, AObj.setFld, setvs, retV, noX, Option.map, Option.getD, ↓reduceIte, Bool.false_eq_true, Bool.not_true, Bool.not_false, List.cons_append, List.nil_append]
  refine ⟨.ref x, rfl, d, _, _, S.hx, S.hd, rfl, n2i, _, ep, rfl, en, ?_⟩
  refine ⟨fun i acc σ => σ.hp = hp ∧ acc = intsA ((keys.take i).filter fun k => cnt k = 0), ⟨rfl, by simp⟩, ?_⟩
  rintro i acc ⟨l, g⟩ ⟨hg, ha⟩
  dsimp only at hg
  subst hg ha
  refine ⟨en, ?_⟩
  have hV : (keys.map fun k => (k, AV.ref (rec k))).map (·.2) = keys.map fun k => AV.ref (rec k) := by rw [List.map_map]; rfl
  rw [hV]
  by_cases hi : i < keys.length
  · have e1 : (keys.map fun k => AV.ref (rec k))[i]? = some (.ref (rec keys[i])) := by simp [hi]
    rw [e1]
    dsimp only [pName, pInt, pBool, pNone, pBin, pUn, tOf, tNot, tAnd, tOr, pIf, lNil, lCons, lStar, starOf, pList, pTuple, pTruth, pSlice, sAssign, aName, aTuple, aItem, aAttrS, aAttrN, sAugName, sAugItem, sAugS, sAugN, sNil, sSeq, sIf, sRet, sFlow, sExpr, sFor, sWhile, sTry, sRaise, sDel, sPair, sDead, vNil, vCons, vOf, iSeq, iRange, iVals, pBi, pBm, pMeth, pCall, pNewS, pNewN, pWal, pComp, cTest, cEmit, cFor, cLoop, pDict0, pListRange, pIterNext, pNextCall, opNextCall, opSet0, opAdd, opSub, opMul, opDiv, opMod, opNeg, opEq, opNe, opLt, opGt, opGe, opIsN, opIsNotN, opIn, opNotIn, opItem, opSetItem, opAttrS, opSetS, opAttrN, opSetN, opLen, opSum, opMin2, opMax2, opAppend, opExtend, opClear, opPop, opCount, opGet, opAdd', opTuple, opList, opSorted, opDel, iAdd, AObj.fld, AObj.setFld, setvs, retV, noX, Option.map, Option.getD, ↓reduceIte, Bool.false_eq_true, Bool.not_true, Bool.not_false, List.cons_append, List.nil_append]
    have hk := List.getElem_mem hi
    obtain ⟨dk, ek, qk⟩ := S.hr _ hk
    refine ⟨_, rfl, dk, _, _, ek, qk, rfl, ?_⟩
    have hr := ready_list (keys := keys) (p := fun k => cnt k = 0) i
    rw [List.getElem?_eq_getElem hi] at hr
    dsimp only [pName, pInt, pBool, pNone, pBin, pUn, tOf, tNot, tAnd, tOr, pIf, lNil, lCons, lStar, starOf, pList, pTuple, pTruth, pSlice, sAssign, aName, aTuple, aItem, aAttrS, aAttrN, sAugName, sAugItem, sAugS, sAugN, sNil, sSeq, sIf, sRet, sFlow, sExpr, sFor, sWhile, sTry, sRaise, sDel, sPair, sDead, vNil, vCons, vOf, iSeq, iRange, iVals, pBi, pBm, pMeth, pCall, pNewS, pNewN, pWal, pComp, cTest, cEmit, cFor, cLoop, pDict0, pListRange, pIterNext, pNextCall, opNextCall, opSet0, opAdd, opSub, opMul, opDiv, opMod, opNeg, opEq, opNe, opLt, opGt, opGe, opIsN, opIsNotN, opIn, opNotIn, opItem, opSetItem, opAttrS, opSetS, opAttrN, opSetN, opLen, opSum, opMin2, opMax2, opAppend, opExtend, opClear, opPop, opCount, opGet, opAdd', opTuple, opList, opSorted, opDel, iAdd, AObj.fld, AObj.setFld, setvs, retV, noX, Option.map, Option.getD, ↓reduceIte, Bool.false_eq_true, Bool.not_true, Bool.not_false, List.cons_append, List.nil_append]
    by_cases hq : cnt keys[i] = 0
    · rw [if_pos (by simpa using hq)]
      refine ⟨_, rfl, dk, _, _, ek, qk, rfl, ?_, rfl, ?_⟩
      · have : ((keys.take i).filter fun k => cnt k = 0).length ≤ (keys.take i).length := List.length_filter_le ..
        simp only [List.length_map, List.length_take] at this ⊢; (first | lia | omega)
      · rw [hr]; simp [hq]
    · rw [if_neg (by simpa using hq)]
      refine ⟨rfl, ?_⟩
      rw [hr]; simp [hq]
  · have e1 : (keys.map fun k => AV.ref (rec k))[i]? = none := by simp; (first | lia | omega)
    rw [e1]
    dsimp only [pName, pInt, pBool, pNone, pBin, pUn, tOf, tNot, tAnd, tOr, pIf, lNil, lCons, lStar, starOf, pList, pTuple, pTruth, pSlice, sAssign, aName, aTuple, aItem, aAttrS, aAttrN, sAugName, sAugItem, sAugS, sAugN, sNil, sSeq, sIf, sRet, sFlow, sExpr, sFor, sWhile, sTry, sRaise, sDel, sPair, sDead, vNil, vCons, vOf, iSeq, iRange, iVals, pBi, pBm, pMeth, pCall, pNewS, pNewN, pWal, pComp, cTest, cEmit, cFor, cLoop, pDict0, pListRange, pIterNext, pNextCall, opNextCall, opSet0, opAdd, opSub, opMul, opDiv, opMod, opNeg, opEq, opNe, opLt, opGt, opGe, opIsN, opIsNotN, opIn, opNotIn, opItem, opSetItem, opAttrS, opSetS, opAttrN, opSetN, opLen, opSum, opMin2, opMax2, opAppend, opExtend, opClear, opPop, opCount, opGet, opAdd', opTuple, opList, opSorted, opDel, iAdd, AObj.fld, AObj.setFld, setvs, retV, noX, Option.map, Option.getD, ↓reduceIte, Bool.false_eq_true, Bool.not_true, Bool.not_false, List.cons_append, List.nil_append]
    intro rl hrl
    rw [List.take_of_length_le (by (first | lia | omega) : keys.length ≤ i)]
    generalize hR : (keys.filter fun k => cnt k = 0) = R
    have S1 := S.ext (Ext.new (.list (intsA R)) hrl)
    have S2 := S1.setd (.ref rl) 0 0
    have hrl1 := upd_at (o := .sd (some (.ref n2i)) (some (.ref rl)) (some (.int 0)) (some (.int 0))) (ne_obj (upd_self g rl (.list (intsA R))) S1.hd nofun) (upd_self g rl (.list (intsA R)))
    have F1 : Frm g own (upd (upd g rl (.list (intsA R))) d (.sd (some (.ref n2i)) (some (.ref rl)) (some (.int 0)) (some (.int 0)))) own := (Frm.of_ext (Ext.new _ hrl)).trans (Frm.set S.od)
    refine ⟨.ref x, rfl, d, _, S1.hx, S1.hd, ⟨_, _, _, _, rfl⟩, ?_⟩
    dsimp only [pName, pInt, pBool, pNone, pBin, pUn, tOf, tNot, tAnd, tOr, pIf, lNil, lCons, lStar, starOf, pList, pTuple, pTruth, pSlice, sAssign, aName, aTuple, aItem, aAttrS, aAttrN, sAugName, sAugItem, sAugS, sAugN, sNil, sSeq, sIf, sRet, sFlow, sExpr, sFor, sWhile, sTry, sRaise, sDel, sPair, sDead, vNil, vCons, vOf, iSeq, iRange, iVals, pBi, pBm, pMeth, pCall, pNewS, pNewN, pWal, pComp, cTest, cEmit, cFor, cLoop, pDict0, pListRange, pIterNext, pNextCall, opNextCall, opSet0, opAdd, opSub, opMul, opDiv, opMod, opNeg, opEq, opNe, opLt, opGt, opGe, opIsN, opIsNotN, opIn, opNotIn, opItem, opSetItem, opAttrS, opSetS, opAttrN, opSetN, opLen, opSum, opMin2, opMax2, opAppend, opExtend, opClear, opPop, opCount, opGet, opAdd', opTuple, opList, opSorted, opDel, iAdd, AObj.fld, AObj.setFld, setvs, retV, noX, Option.map, Option.getD, ↓reduceIte, Bool.false_eq_true, Bool.not_true, Bool.not_false, List.cons_append, List.nil_append]
    generalize upd (upd g rl (.list (intsA R))) d (.sd (some (.ref n2i)) (some (.ref rl)) (some (.int 0)) (some (.int 0))) = hp2 at S2 hrl1 F1
    refine ⟨.ref x, rfl, x, ⟨rfl, d, S2.hx, isSd_of S2.hd⟩, ?_⟩
    have RUN : ∀ hp', Ext hp2 hp' → Run hp' (fun a => own a ∨ a = rl) x d n2i rec suc keys succ (fun _ => false) (fun _ => false) rl R := fun hp' hx => by
      have S3 := S2.ext hx
      refine { S := ?_, hrl := hx _ _ hrl1, orl := .inr rfl, nrl := fun k hk => ne_of (S.hs k hk) hrl, nd := ?_, mem := ?_, ko := nofun, kd := nofun, sub := hsub, small := hz }
      · have e : cntOf keys succ (fun _ => false) (fun _ => false) = cnt := by
          funext k
          show ((ind keys succ (fun _ => false) k : Nat) : Int) = _
          by_cases hk : k ∈ keys
          · exact (hc k hk).symm
          · rw [(S.out k hk).1, ind_zero.mpr fun v hv hkv => absurd (hsub v hv k hkv) hk]; rfl
        rw [e]
        have e2 : keys.countP (fun k => false) = 0 := by simp
        simp only [Bool.or_self, e2]
        exact { S3 with hr2 := (fun k hk => by obtain ⟨dd, vs, e, q⟩ := S3.hr2 k hk; exact ⟨dd, vs, e, .inl q⟩), od := .inl S3.od, on := .inl S3.on, orr := fun k hk => .inl (S3.orr k hk), os := fun k hk => .inl (S3.os k hk), al := fun a ha => ha.elim (S3.al a) fun e => by rw [e, hx _ _ hrl1]; nofun }
      · rw [← hR]; exact List.Pairwise.filter _ S.nd
      · intro k
        rw [← hR, List.mem_filter, decide_eq_true_eq]
        refine and_congr_right fun hk => ?_
        rw [hc k hk]
        simp
    have FRM : ∀ hp', Ext hp2 hp' → Frm g own hp' (fun a => own a ∨ a = rl) := fun hp' hx a o e n => by
      obtain ⟨p, q⟩ := F1 a o e n
      refine ⟨hx _ _ p, ?_⟩
      rintro (h | rfl)
      · exact n h
      · rw [hrl] at e; cases e
    refine cycle_spec S2 hsub hz (fun hp' hx hr => ?_) (fun hp' l c hx hl hl' hcn hcy => ?_)
    · unfold fcPrep
      dsimp only [pName, pInt, pBool, pNone, pBin, pUn, tOf, tNot, tAnd, tOr, pIf, lNil, lCons, lStar, starOf, pList, pTuple, pTruth, pSlice, sAssign, aName, aTuple, aItem, aAttrS, aAttrN, sAugName, sAugItem, sAugS, sAugN, sNil, sSeq, sIf, sRet, sFlow, sExpr, sFor, sWhile, sTry, sRaise, sDel, sPair, sDead, vNil, vCons, vOf, iSeq, iRange, iVals, pBi, pBm, pMeth, pCall, pNewS, pNewN, pWal, pComp, cTest, cEmit, cFor, cLoop, pDict0, pListRange, pIterNext, pNextCall, opNextCall, opSet0, opAdd, opSub, opMul, opDiv, opMod, opNeg, opEq, opNe, opLt, opGt, opGe, opIsN, opIsNotN, opIn, opNotIn, opItem, opSetItem, opAttrS, opSetS, opAttrN, opSetN, opLen, opSum, opMin2, opMax2, opAppend, opExtend, opClear, opPop, opCount, opGet, opAdd', opTuple, opList, opSorted, opDel, iAdd, AObj.fld, AObj.setFld, setvs, retV, noX, Option.map, Option.getD, ↓reduceIte, Bool.false_eq_true, Bool.not_true, Bool.not_false, List.cons_append, List.nil_append]
      exact ⟨_, rfl, h0 hp' _ rl R (RUN _ hx) (FRM _ hx) hr⟩
    · unfold fcPrep
      dsimp only [pName, pInt, pBool, pNone, pBin, pUn, tOf, tNot, tAnd, tOr, pIf, lNil, lCons, lStar, starOf, pList, pTuple, pTruth, pSlice, sAssign, aName, aTuple, aItem, aAttrS, aAttrN, sAugName, sAugItem, sAugS, sAugN, sNil, sSeq, sIf, sRet, sFlow, sExpr, sFor, sWhile, sTry, sRaise, sDel, sPair, sDead, vNil, vCons, vOf, iSeq, iRange, iVals, pBi, pBm, pMeth, pCall, pNewS, pNewN, pWal, pComp, cTest, cEmit, cFor, cLoop, pDict0, pListRange, pIterNext, pNextCall, opNextCall, opSet0, opAdd, opSub, opMul, opDiv, opMod, opNeg, opEq, opNe, opLt, opGt, opGe, opIsN, opIsNotN, opIn, opNotIn, opItem, opSetItem, opAttrS, opSetS, opAttrN, opSetN, opLen, opSum, opMin2, opMax2, opAppend, opExtend, opClear, opPop, opCount, opGet, opAdd', opTuple, opList, opSorted, opDel, iAdd, AObj.fld, AObj.setFld, setvs, retV, noX, Option.map, Option.getD, ↓reduceIte, Bool.false_eq_true, Bool.not_true, Bool.not_false, List.cons_append, List.nil_append]
      refine ⟨_, rfl, _, lst_of hl', ?_⟩
      dsimp only
      rw [if_pos (by cases c with | nil => exact absurd rfl hcn | cons => rfl)]
      exact ⟨_, rfl, h1 hp' _ rl R (RUN _ hx) (FRM _ hx) hcy⟩

theorem Run.ext {hp' : AH} {don out : Int → Bool} {rl : Addr} {R : List Int} (r : Run hp own x d n2i rec suc keys succ don out rl R) (h : Ext hp hp') : Run hp' own x d n2i rec suc keys succ don out rl R :=
  { r with S := r.S.ext h, hrl := h _ _ r.hrl }
theorem Run.pred {don out : Int → Bool} {rl : Addr} {R : List Int} (r : Run hp own x d n2i rec suc keys succ don out rl R) {k : Int} : k ∈ R ↔ k ∈ keys ∧ don k = false ∧ out k = false ∧ ∀ v ∈ keys, k ∈ succ v → don v = true := by
  rw [r.mem k, ind_zero]
theorem cntP_or {p q : Int → Bool} (hd : ∀ k, p k = true → q k = false) : ∀ l : List Int, l.countP (fun k => p k || q k) = l.countP p + l.countP q
  | [] => rfl
  | a :: l => by
    rw [List.countP_cons, List.countP_cons, List.countP_cons, cntP_or hd l]
    cases h1 : p a <;> cases h2 : q a
    · simp
    · simp; (first | lia | omega)
    · simp; (first | lia | omega)
    · have := hd a h1; rw [h2] at this; cases this
theorem cntP_mem : ∀ {R l : List Int}, R.Nodup → l.Nodup → (∀ k ∈ R, k ∈ l) → l.countP (fun k => decide (k ∈ R)) = R.length := by
  intro R l hR hl hs
  rw [List.countP_eq_length_filter]
  refine List.Perm.length_eq ((List.perm_ext_iff_of_nodup (List.Pairwise.filter _ hl) hR).mpr fun k => ?_)
  rw [List.mem_filter, decide_eq_true_eq]
  exact ⟨fun h => h.2, fun h => ⟨hs k h, h⟩⟩
theorem ready_spec {Q : AV → AH → Prop} {E : Ex → AH → Prop} {don out : Int → Bool} {rl : Addr} {R : List Int} (r : Run hp own x d n2i rec suc keys succ don out rl R)
    (h : ∀ hp' t, Run hp' own x d n2i rec suc keys succ don (fun k => out k || decide (k ∈ R)) rl [] → Frm hp own hp' own → hp t = none → hp' t = some (.tup (intsA R)) → Q (.ref t) hp') :
    fp_get_ready [.ref x] Q E hp := by
  refine ⟨rfl, ?_⟩
  have S := r.S
  have hRk : ∀ k ∈ R, k ∈ keys := fun k hk => ((r.mem k).mp hk).1
  unfold pt_get_ready
  dsimp only [pName, pInt, pBool, pNone, pBin, pUn, tOf, tNot, tAnd, tOr, pIf, lNil, lCons, lStar, starOf, pList, pTuple, pTruth, pSlice, sAssign, aName, aTuple, aItem, aAttrS, aAttrN, sAugName, sAugItem, sAugS, sAugN, sNil, sSeq, sIf, sRet, sFlow, sExpr, sFor, sWhile, sTry, sRaise, sDel, sPair, sDead, vNil, vCons, vOf, iSeq, iRange, iVals, pBi, pBm, pMeth, pCall, pNewS, pNewN, pWal, pComp, cTest, cEmit, cFor, cLoop, pDict0, pListRange, pIterNext, pNextCall, opNextCall, opSet0, opAdd, opSub, opMul, opDiv, opMod, opNeg, opEq, opNe, opLt, opGt, opGe, opIsN, opIsNotN, opIn, opNotIn, opItem, opSetItem, opAttrS, opSetS, opAttrN, opSetN, opLen, opSum, opMin2, opMax2, opAppend, opExtend, opClear, opPop, opCount, opGet, opAdd', opTuple, opList, opSorted, opDel, iAdd, AObj.fld, AObj.setFld, setvs, retV, noX, Option.map, Option.getD, ↓reduceIte, Bool.false_eq_true, Bool.not_true, Bool.not_false, List.cons_append, List.nil_append]
  refine ⟨.ref x, rfl, d, _, _, S.hx, S.hd, rfl, ?_⟩
  dsimp only [pName, pInt, pBool, pNone, pBin, pUn, tOf, tNot, tAnd, tOr, pIf, lNil, lCons, lStar, starOf, pList, pTuple, pTruth, pSlice, sAssign, aName, aTuple, aItem, aAttrS, aAttrN, sAugName, sAugItem, sAugS, sAugN, sNil, sSeq, sIf, sRet, sFlow, sExpr, sFor, sWhile, sTry, sRaise, sDel, sPair, sDead, vNil, vCons, vOf, iSeq, iRange, iVals, pBi, pBm, pMeth, pCall, pNewS, pNewN, pWal, pComp, cTest, cEmit, cFor, cLoop, pDict0, pListRange, pIterNext, pNextCall, opNextCall, opSet0, opAdd, opSub, opMul, opDiv, opMod, opNeg, opEq, opNe, opLt, opGt, opGe, opIsN, opIsNotN, opIn, opNotIn, opItem, opSetItem, opAttrS, opSetS, opAttrN, opSetN, opLen, opSum, opMin2, opMax2, opAppend, opExtend, opClear, opPop, opCount, opGet, opAdd', opTuple, opList, opSorted, opDel, iAdd, AObj.fld, AObj.setFld, setvs, retV, noX, Option.map, Option.getD, ↓reduceIte, Bool.false_eq_true, Bool.not_true, Bool.not_false, List.cons_append, List.nil_append]
  refine ⟨.ref x, rfl, d, _, _, S.hx, S.hd, rfl, ?_⟩
  refine ⟨_, r.hrl, fun t ht => ?_⟩
  have r1 := r.ext (Ext.new (.tup (intsA R)) ht)
  have F1 : Frm hp own (upd hp t (.tup (intsA R))) own := Frm.of_ext (Ext.new _ ht)
  have ht1 := upd_self hp t (.tup (intsA R))
  have hto : ¬ own t := fun q => S.al t q ht
  dsimp only [pName, pInt, pBool, pNone, pBin, pUn, tOf, tNot, tAnd, tOr, pIf, lNil, lCons, lStar, starOf, pList, pTuple, pTruth, pSlice, sAssign, aName, aTuple, aItem, aAttrS, aAttrN, sAugName, sAugItem, sAugS, sAugN, sNil, sSeq, sIf, sRet, sFlow, sExpr, sFor, sWhile, sTry, sRaise, sDel, sPair, sDead, vNil, vCons, vOf, iSeq, iRange, iVals, pBi, pBm, pMeth, pCall, pNewS, pNewN, pWal, pComp, cTest, cEmit, cFor, cLoop, pDict0, pListRange, pIterNext, pNextCall, opNextCall, opSet0, opAdd, opSub, opMul, opDiv, opMod, opNeg, opEq, opNe, opLt, opGt, opGe, opIsN, opIsNotN, opIn, opNotIn, opItem, opSetItem, opAttrS, opSetS, opAttrN, opSetN, opLen, opSum, opMin2, opMax2, opAppend, opExtend, opClear, opPop, opCount, opGet, opAdd', opTuple, opList, opSorted, opDel, iAdd, AObj.fld, AObj.setFld, setvs, retV, noX, Option.map, Option.getD, ↓reduceIte, Bool.false_eq_true, Bool.not_true, Bool.not_false, List.cons_append, List.nil_append]
  generalize upd hp t (.tup (intsA R)) = hp1 at r1 F1 ht1
  refine ⟨.ref x, rfl, d, _, _, r1.S.hx, r1.S.hd, rfl, ?_⟩
  refine ⟨_, rfl, t, rfl, .inr (.inl ⟨_, ht1, ?_⟩)⟩
  refine ⟨fun i σ => σ.loc 0 = some (.ref x) ∧ σ.loc 1 = some (.ref t) ∧ σ.loc 2 = some (.ref n2i) ∧ Srt σ.hp own x d n2i rec suc keys (fun k => if k ∈ R.take i then -1 else cntOf keys succ don out k) succ (.ref rl) (keys.countP fun k => don k || out k) (keys.countP don) ∧ σ.hp rl = some (.list (intsA R)) ∧ Frm hp own σ.hp own ∧ σ.hp t = some (.tup (intsA R)), ?_, ?_⟩
  · exact ⟨rfl, rfl, rfl, by simpa using r1.S, r1.hrl, F1, ht1⟩
  · rintro i ⟨l, g⟩ ⟨l0, l1, l2, S', hrl', F', ht'⟩
    dsimp only at l0 l1 l2 S' hrl' F' ht'
    refine ⟨ht', ?_⟩
    by_cases hi : i < R.length
    · have e1 : (intsA R)[i]? = some (.int R[i]) := by simp [hi]
      rw [e1]
      have hk := hRk _ (List.getElem_mem hi)
      obtain ⟨dk, ek, qk⟩ := S'.hr _ hk
      refine ⟨_, l2, _, rfl, _, S'.item hk, dk, _, ek, qk, l0, l1, l2, ?_, ?_, F'.trans (Frm.set (S'.orr _ hk)), ?_⟩
      · have S2 := S'.setc hk (-1) qk (S'.odd hk ek)
        have e : setI (fun k => if k ∈ R.take i then -1 else cntOf keys succ don out k) R[i] (-1) = fun k => if k ∈ R.take (i + 1) then -1 else cntOf keys succ don out k := by
          funext k
          unfold setI
          rw [take_next hi]
          by_cases q : k = R[i]
          · rw [if_pos q, if_pos (by rw [q]; exact List.mem_append_right _ (List.mem_singleton.mpr rfl))]
          · rw [if_neg q]
            dsimp only
            by_cases q2 : k ∈ R.take i
            · rw [if_pos q2, if_pos (List.mem_append_left _ q2)]
            · rw [if_neg q2, if_neg (by rw [List.mem_append, List.mem_singleton]; exact fun h => h.elim q2 q)]
        rw [e] at S2
        exact S2
      · exact upd_at (ne_obj hrl' ek nofun) hrl'
      · exact upd_at (ne_obj ht' ek nofun) ht'
    · have e1 : (intsA R)[i]? = none := by simp; (first | lia | omega)
      rw [e1]
      rw [List.take_of_length_le (by (first | lia | omega) : R.length ≤ i)] at S'
      refine ⟨_, l0, d, _, _, S'.hx, S'.hd, rfl, ⟨rl, _, rfl, hrl', rfl⟩, _, hrl', ?_⟩
      have S2 := S'.setl (l' := []) hrl' r.nrl
      have hrl2 := upd_self g rl (.list [])
      have ht2 := upd_at (o := .list []) (ne_obj ht' hrl' nofun) ht'
      have F2 := F'.trans (Frm.set (o := .list []) r.orl)
      dsimp only
      generalize upd g rl (.list []) = hp2 at S2 hrl2 ht2 F2
      refine ⟨_, l0, d, _, _, S2.hx, S2.hd, rfl, _, l1, .inr ⟨_, ht2, ?_⟩⟩
      dsimp only [pName, pInt, pBool, pNone, pBin, pUn, tOf, tNot, tAnd, tOr, pIf, lNil, lCons, lStar, starOf, pList, pTuple, pTruth, pSlice, sAssign, aName, aTuple, aItem, aAttrS, aAttrN, sAugName, sAugItem, sAugS, sAugN, sNil, sSeq, sIf, sRet, sFlow, sExpr, sFor, sWhile, sTry, sRaise, sDel, sPair, sDead, vNil, vCons, vOf, iSeq, iRange, iVals, pBi, pBm, pMeth, pCall, pNewS, pNewN, pWal, pComp, cTest, cEmit, cFor, cLoop, pDict0, pListRange, pIterNext, pNextCall, opNextCall, opSet0, opAdd, opSub, opMul, opDiv, opMod, opNeg, opEq, opNe, opLt, opGt, opGe, opIsN, opIsNotN, opIn, opNotIn, opItem, opSetItem, opAttrS, opSetS, opAttrN, opSetN, opLen, opSum, opMin2, opMax2, opAppend, opExtend, opClear, opPop, opCount, opGet, opAdd', opTuple, opList, opSorted, opDel, iAdd, AObj.fld, AObj.setFld, setvs, retV, noX, Option.map, Option.getD, ↓reduceIte, Bool.false_eq_true, Bool.not_true, Bool.not_false, List.cons_append, List.nil_append]
      refine ⟨d, _, S2.hx, S2.hd, ⟨_, _, _, _, rfl⟩, _, l1, ?_⟩
      have S3 := S2.setd (.ref rl) ((keys.countP fun k => don k || out k) + (intsA R).length) (keys.countP don)
      refine h _ t { r with S := ?_, hrl := upd_at (ne_obj hrl2 S2.hd nofun) hrl2, nd := List.nodup_nil, mem := ?_, ko := ?_ } (F2.trans (Frm.set S2.od)) ht (upd_at (ne_obj ht2 S2.hd nofun) ht2)
      · have e : (fun k => if k ∈ R then -1 else cntOf keys succ don out k) = cntOf keys succ don (fun k => out k || decide (k ∈ R)) := by
          funext k
          unfold cntOf
          by_cases q : k ∈ R
          · rw [if_pos q, ((r.mem k).mp q).2.1]; simp [q]
          · rw [if_neg q]; simp [q]
        have e2 : keys.countP (fun k => don k || (out k || decide (k ∈ R))) = keys.countP (fun k => don k || out k) + R.length := by
          rw [← cntP_mem r.nd r.S.nd hRk, ← cntP_or]
          · simp only [Bool.or_assoc]
          · intro k hk
            rw [decide_eq_false_iff_not]
            intro q
            obtain ⟨_, q1, q2, _⟩ := (r.mem k).mp q
            rw [q1, q2] at hk; cases hk
        rw [e] at S3
        simp only [List.length_map] at S3
        rw [e2, Int.natCast_add]
        simp only [List.length_map]
        exact S3
      · intro k
        constructor
        · nofun
        · rintro ⟨q1, q2, q3, q4⟩
          rw [Bool.or_eq_false_iff, decide_eq_false_iff_not] at q3
          exact absurd ((r.mem k).mpr ⟨q1, q2, q3.1, q4⟩) q3.2
      · intro k hk
        rw [Bool.or_eq_true, decide_eq_true_eq] at hk
        rcases hk with hk | hk
        · exact r.ko k hk
        · obtain ⟨q1, q2, q3, q4⟩ := (r.mem k).mp hk
          exact ⟨q1, q2, q4⟩

theorem len_sub {l keys : List Int} (h : l.Nodup) (hs : ∀ k ∈ l, k ∈ keys) : l.length ≤ keys.length := by
  have h2 := sum_sub (f := fun _ => 1) h hs
  have h3 : ∀ l : List Int, (l.map fun _ => 1).sum = l.length := fun l => by induction l with
    | nil => rfl
    | cons a l ih => simp only [List.map_cons, List.sum_cons, List.length_cons, ih]; (first | lia | omega)
  rwa [h3, h3] at h2
theorem ind_ge {don : Int → Bool} {v k : Int} (hv : v ∈ keys) (hd : don v = false) : (succ v).count k ≤ ind keys succ don k := by
  unfold ind
  have := sum_ge (f := fun v => if don v then 0 else (succ v).count k) hv
  simpa [hd] using this
noncomputable def dnInner : SP := (sFor (iSeq (pUn (opAttrN 2) (pName 4))) (aName 6) (sSeq (sAssign (pBin opItem (pName 2) (pName 6)) (aName 7)) (sSeq (sAugN 1 opSub (pName 7) (pInt 1)) (sIf (tOf (pBin opEq (pUn (opAttrN 1) (pName 7)) (pInt 0))) (sExpr (pBm "list" opAppend (pUn (opAttrS 1) (pName 0)) (lCons (pName 6) lNil))) sNil))))
theorem dn_inner {σ : St} {Q : Fl → St → Prop} {E : Ex → St → Prop} {don out : Int → Bool} {rl : Addr} {R : List Int} {v : Int} {c : Int → Int}
    (hv : v ∈ keys) (hvd : don v = false) (hvi : ind keys succ don v = 0) (hsub : ∀ v ∈ keys, ∀ w ∈ succ v, w ∈ keys) (hz : keys.length < 1000) (hR : R.length < 1000)
    (hc : ∀ k, 0 < ind keys succ don k → c k = ind keys succ don k)
    (S : Srt σ.hp own x d n2i rec suc keys (setI c v (-2)) succ (.ref rl) np nf) (hrl : σ.hp rl = some (.list (intsA R))) (nrl : ∀ k ∈ keys, suc k ≠ rl) (orl : own rl)
    (l0 : σ.loc 0 = some (.ref x)) (l2 : σ.loc 2 = some (.ref n2i)) (l4 : σ.loc 4 = some (.ref (rec v)))
    (h : ∀ l' hp' N, l' 0 = some (.ref x) → l' 1 = σ.loc 1 → l' 2 = some (.ref n2i) → Srt hp' own x d n2i rec suc keys (fun k => setI c v (-2) k - (succ v).count k) succ (.ref rl) np nf → hp' rl = some (.list (intsA (R ++ N))) → N.Nodup →
      (∀ k, k ∈ N ↔ (k ∈ succ v ∧ ind keys succ don k = (succ v).count k)) → Frm σ.hp own hp' own → Q .next ⟨l', hp'⟩) :
    dnInner Q E σ := by
  unfold dnInner
  dsimp only [pName, pInt, pBool, pNone, pBin, pUn, tOf, tNot, tAnd, tOr, pIf, lNil, lCons, lStar, starOf, pList, pTuple, pTruth, pSlice, sAssign, aName, aTuple, aItem, aAttrS, aAttrN, sAugName, sAugItem, sAugS, sAugN, sNil, sSeq, sIf, sRet, sFlow, sExpr, sFor, sWhile, sTry, sRaise, sDel, sPair, sDead, vNil, vCons, vOf, iSeq, iRange, iVals, pBi, pBm, pMeth, pCall, pNewS, pNewN, pWal, pComp, cTest, cEmit, cFor, cLoop, pDict0, pListRange, pIterNext, pNextCall, opNextCall, opSet0, opAdd, opSub, opMul, opDiv, opMod, opNeg, opEq, opNe, opLt, opGt, opGe, opIsN, opIsNotN, opIn, opNotIn, opItem, opSetItem, opAttrS, opSetS, opAttrN, opSetN, opLen, opSum, opMin2, opMax2, opAppend, opExtend, opClear, opPop, opCount, opGet, opAdd', opTuple, opList, opSorted, opDel, iAdd, AObj.fld, AObj.setFld, setvs, retV, noX, Option.map, Option.getD, ↓reduceIte, Bool.false_eq_true, Bool.not_true, Bool.not_false, List.cons_append, List.nil_append]
  obtain ⟨dv, ev, qv⟩ := S.hr v hv
  have hs := S.hs v hv
  refine ⟨_, l4, dv, _, _, ev, qv, rfl, _, rfl, .inl ⟨_, lst_of hs, ?_⟩⟩
  refine ⟨fun j σ' => σ'.loc 0 = some (.ref x) ∧ σ'.loc 1 = σ.loc 1 ∧ σ'.loc 2 = some (.ref n2i) ∧ Srt σ'.hp own x d n2i rec suc keys (fun k => setI c v (-2) k - ((succ v).take j).count k) succ (.ref rl) np nf ∧ Frm σ.hp own σ'.hp own ∧ ∃ N, σ'.hp rl = some (.list (intsA (R ++ N))) ∧ N.Nodup ∧
      (∀ k, k ∈ N ↔ (k ∈ (succ v).take j ∧ ind keys succ don k = ((succ v).take j).count k)), ?_, ?_⟩
  · refine ⟨l0, rfl, l2, ?_, Frm.refl _ _, [], by simpa using hrl, List.nodup_nil, by simp⟩
    have : (fun k => setI c v (-2) k - (((succ v).take 0).count k : Nat)) = setI c v (-2) := by funext k; simp
    rw [this]; exact S
  · rintro j ⟨l, g⟩ ⟨l0', l1', l2', S', F', N, hrl', hN, hNm⟩
    dsimp only at l0' l1' l2' S' F' hrl'
    refine ⟨lst_of (S'.hs v hv), ?_⟩
    by_cases hj : j < (succ v).length
    · have e1 : (intsA (succ v))[j]? = some (.int (succ v)[j]) := by simp [hj]
      rw [e1]
      generalize hw : (succ v)[j] = w
      have hwm : w ∈ succ v := hw ▸ List.getElem_mem hj
      have hwk := hsub v hv w hwm
      have etake : (succ v).take (j + 1) = (succ v).take j ++ [w] := by rw [take_next hj, hw]
      have hcle : ((succ v).take (j + 1)).count w ≤ (succ v).count w := List.Sublist.count_le _ (List.take_sublist ..)
      have hge := ind_ge (succ := succ) (k := w) hv hvd
      have hcw : ((succ v).take (j + 1)).count w = ((succ v).take j).count w + 1 := by rw [etake, List.count_append]; simp
      have hwv : w ≠ v := fun e => by rw [e] at hge hcw hcle; (first | lia | omega)
      have hcc := hc w (by (first | lia | omega))
      have hnN : w ∉ N := fun h => by
        have h1 := (hNm w).mp h
        (first | lia | omega)
      dsimp only [pName, pInt, pBool, pNone, pBin, pUn, tOf, tNot, tAnd, tOr, pIf, lNil, lCons, lStar, starOf, pList, pTuple, pTruth, pSlice, sAssign, aName, aTuple, aItem, aAttrS, aAttrN, sAugName, sAugItem, sAugS, sAugN, sNil, sSeq, sIf, sRet, sFlow, sExpr, sFor, sWhile, sTry, sRaise, sDel, sPair, sDead, vNil, vCons, vOf, iSeq, iRange, iVals, pBi, pBm, pMeth, pCall, pNewS, pNewN, pWal, pComp, cTest, cEmit, cFor, cLoop, pDict0, pListRange, pIterNext, pNextCall, opNextCall, opSet0, opAdd, opSub, opMul, opDiv, opMod, opNeg, opEq, opNe, opLt, opGt, opGe, opIsN, opIsNotN, opIn, opNotIn, opItem, opSetItem, opAttrS, opSetS, opAttrN, opSetN, opLen, opSum, opMin2, opMax2, opAppend, opExtend, opClear, opPop, opCount, opGet, opAdd', opTuple, opList, opSorted, opDel, iAdd, AObj.fld, AObj.setFld, setvs, retV, noX, Option.map, Option.getD, ↓reduceIte, Bool.false_eq_true, Bool.not_true, Bool.not_false, List.cons_append, List.nil_append]
      obtain ⟨dw, ew, qw⟩ := S'.hr w hwk
      refine ⟨_, l2', _, rfl, _, S'.item hwk, _, rfl, dw, _, _, ew, qw, rfl, ?_⟩
      refine ⟨dw, _, ew, qw, ?_⟩
      have S2 := S'.setc hwk (setI c v (-2) w - ((succ v).take j).count w - 1) qw (S'.odd hwk ew)
      have hval : setI c v (-2) w - (((succ v).take j).count w : Nat) - 1 = setI c v (-2) w - (((succ v).take (j + 1)).count w : Nat) := by (first | lia | omega)
      have e : setI (fun k => setI c v (-2) k - ((succ v).take j).count k) w (setI c v (-2) w - ((succ v).take j).count w - 1) = fun k => setI c v (-2) k - ((succ v).take (j + 1)).count k := by
        funext k
        by_cases q : k = w
        · rw [q, setI_self, hval]
        · rw [setI_ne q, etake, List.count_append, List.count_singleton, if_neg (by simpa using Ne.symm q), Nat.add_zero]
      rw [e] at S2
      have hrl2 := upd_at (o := .rcd dw [some (.int w), some (.int (setI c v (-2) w - ((succ v).take j).count w - 1)), some (.ref (suc w))]) (ne_obj hrl' ew nofun) hrl'
      have F2 := F'.trans (Frm.set (o := .rcd dw [some (.int w), some (.int (setI c v (-2) w - ((succ v).take j).count w - 1)), some (.ref (suc w))]) (S'.orr w hwk))
      have e3 : ([some (AV.int w), some (AV.int (setI c v (-2) w - ((succ v).take j).count w)), some (AV.ref (suc w))] ++ List.replicate (1 + 1 - [some (AV.int w), some (AV.int (setI c v (-2) w - ((succ v).take j).count w)), some (AV.ref (suc w))].length) none).set 1 (some (.int (setI c v (-2) w - ((succ v).take j).count w - 1))) = [some (.int w), some (.int (setI c v (-2) w - ((succ v).take j).count w - 1)), some (.ref (suc w))] := rfl
      rw [e3]
      generalize upd g (rec w) (.rcd dw [some (.int w), some (.int (setI c v (-2) w - ((succ v).take j).count w - 1)), some (.ref (suc w))]) = hp2 at S2 hrl2 F2
      obtain ⟨dw2, ew2, qw2⟩ := S2.hr w hwk
      refine ⟨_, rfl, dw2, _, _, ew2, qw2, rfl, ?_⟩
      dsimp only [pName, pInt, pBool, pNone, pBin, pUn, tOf, tNot, tAnd, tOr, pIf, lNil, lCons, lStar, starOf, pList, pTuple, pTruth, pSlice, sAssign, aName, aTuple, aItem, aAttrS, aAttrN, sAugName, sAugItem, sAugS, sAugN, sNil, sSeq, sIf, sRet, sFlow, sExpr, sFor, sWhile, sTry, sRaise, sDel, sPair, sDead, vNil, vCons, vOf, iSeq, iRange, iVals, pBi, pBm, pMeth, pCall, pNewS, pNewN, pWal, pComp, cTest, cEmit, cFor, cLoop, pDict0, pListRange, pIterNext, pNextCall, opNextCall, opSet0, opAdd, opSub, opMul, opDiv, opMod, opNeg, opEq, opNe, opLt, opGt, opGe, opIsN, opIsNotN, opIn, opNotIn, opItem, opSetItem, opAttrS, opSetS, opAttrN, opSetN, opLen, opSum, opMin2, opMax2, opAppend, opExtend, opClear, opPop, opCount, opGet, opAdd', opTuple, opList, opSorted, opDel, iAdd, AObj.fld, AObj.setFld, setvs, retV, noX, Option.map, Option.getD, ↓reduceIte, Bool.false_eq_true, Bool.not_true, Bool.not_false, List.cons_append, List.nil_append]
      rw [setI_ne hwv, hcc]
      by_cases q0 : (ind keys succ don w : Int) - (((succ v).take (j + 1)).count w : Nat) = 0
      · rw [if_pos (by simpa using q0)]
        refine ⟨_, l0', d, _, _, S2.hx, S2.hd, rfl, ⟨rl, _, rfl, hrl2, rfl⟩, _, rfl, _, hrl2, ?_, ?_⟩
        · have : N.length ≤ keys.length := len_sub hN fun k hk => hsub v hv k (List.mem_of_mem_take ((hNm k).mp hk).1)
          simp only [List.length_map, List.length_append]; (first | lia | omega)
        · have S3 := S2.setl (l' := intsA (R ++ N) ++ [.int w]) hrl2 nrl
          refine ⟨l0', l1', l2', S3, F2.trans (Frm.set orl), N ++ [w], ?_, ?_, ?_⟩
          · have : intsA (R ++ (N ++ [w])) = intsA (R ++ N) ++ [.int w] := by simp
            rw [this]; exact upd_self ..
          · rw [List.nodup_append]
            exact ⟨hN, by simp, fun a ha b hb e => hnN (by rw [← List.mem_singleton.mp hb, ← e]; exact ha)⟩
          · intro k
            by_cases q : k = w
            · subst q
              refine ⟨fun _ => ⟨by rw [etake]; simp, by (first | lia | omega)⟩, fun _ => by simp⟩
            · have ec : ((succ v).take (j + 1)).count k = ((succ v).take j).count k := by
                rw [etake, List.count_append, List.count_singleton, if_neg (by simpa using Ne.symm q), Nat.add_zero]
              rw [ec, etake, List.mem_append, List.mem_append, hNm k, List.mem_singleton]
              simp [q]
      · rw [if_neg (by simpa using q0)]
        refine ⟨l0', l1', l2', S2, F2, N, hrl2, hN, fun k => ?_⟩
        by_cases q : k = w
        · subst q
          refine ⟨fun h => absurd h hnN, fun h => ?_⟩
          have := h.2
          (first | lia | omega)
        · have ec : ((succ v).take (j + 1)).count k = ((succ v).take j).count k := by
            rw [etake, List.count_append, List.count_singleton, if_neg (by simpa using Ne.symm q), Nat.add_zero]
          rw [ec, etake, hNm k, List.mem_append, List.mem_singleton]
          simp [q]
    · have e1 : (intsA (succ v))[j]? = none := by simp; (first | lia | omega)
      rw [e1]
      rw [List.take_of_length_le (by (first | lia | omega) : (succ v).length ≤ j)] at S' hNm
      exact h l g N l0' l1' l2' S' hrl' hN hNm F'
end
end
section
section
variable {hp : AH} {own : Addr → Prop} {x d n2i : Addr} {rec suc : Int → Addr} {keys : List Int} {cnt : Int → Int} {succ : Int → List Int} {rdy : AV} {np nf : Int}
theorem cntP_set {p : Int → Bool} {v : Int} : ∀ {l : List Int}, l.Nodup → v ∈ l → p v = false → l.countP (setB p v true) = l.countP p + 1
  | [], _, h, _ => by cases h
  | a :: l, hn, h, hp => by
    rw [List.nodup_cons] at hn
    rw [List.countP_cons, List.countP_cons]
    by_cases e : a = v
    · subst e
      have : l.countP (setB p a true) = l.countP p := List.countP_congr fun u hu => by
        unfold setB; rw [if_neg fun q => hn.1 (by rw [← q]; exact hu)]
      rw [this, hp]; unfold setB; simp
    · have hv : v ∈ l := by rcases List.mem_cons.mp h with q | q; exact absurd q.symm e; exact q
      rw [cntP_set hn.2 hv hp]
      unfold setB; rw [if_neg e]; (first | lia | omega)
/-- one more name done -/
theorem run_done {hp' : AH} {don out : Int → Bool} {rl : Addr} {R N : List Int} {v : Int} (r : Run hp own x d n2i rec suc keys succ don out rl R) (hv : out v = true)
    (S : Srt hp' own x d n2i rec suc keys (fun k => setI (cntOf keys succ don out) v (-2) k - (succ v).count k) succ (.ref rl) (keys.countP fun k => don k || out k) (keys.countP don + 1))
    (hrl : hp' rl = some (.list (intsA (R ++ N)))) (hN : N.Nodup) (hNm : ∀ k, k ∈ N ↔ (k ∈ succ v ∧ ind keys succ don k = (succ v).count k)) :
    Run hp' own x d n2i rec suc keys succ (setB don v true) (setB out v false) rl (R ++ N) := by
  obtain ⟨hvk, hvd, hvi⟩ := r.ko v hv
  have hin : ∀ k, ind keys succ don k = ind keys succ (setB don v true) k + (succ v).count k := fun k => ind_done r.S.nd hvk hvd
  have e1 : (fun k => setI (cntOf keys succ don out) v (-2) k - (succ v).count k) = cntOf keys succ (setB don v true) (setB out v false) := by
    funext k
    have hk := hin k
    by_cases q : k = v
    · subst q
      rw [setI_self]
      unfold cntOf setB
      rw [if_pos rfl, if_pos rfl]
      (first | lia | omega)
    · rw [setI_ne q]
      unfold cntOf
      have a1 : setB don v true k = don k := if_neg q
      have a2 : setB out v false k = out k := if_neg q
      rw [a1, a2]
      cases h1 : don k with
      | true =>
        have := (r.kd k h1).2
        simp only [if_true]; (first | lia | omega)
      | false =>
        cases h2 : out k with
        | true =>
          have := (r.ko k h2).2.2
          simp only [Bool.false_eq_true, if_false, if_true]; (first | lia | omega)
        | false => simp only [Bool.false_eq_true, if_false]; (first | lia | omega)
  have e2 : keys.countP (fun k => setB don v true k || setB out v false k) = keys.countP fun k => don k || out k := List.countP_congr fun k hk => by
    unfold setB
    by_cases q : k = v
    · rw [if_pos q, if_pos q, q, hv]; simp
    · rw [if_neg q, if_neg q]
  refine { r with S := ?_, hrl := hrl, nd := ?_, mem := ?_, ko := ?_, kd := ?_ }
  · rw [← e1, e2, cntP_set r.S.nd hvk hvd]
    exact S
  · rw [List.nodup_append]
    refine ⟨r.nd, hN, fun a ha b hb e => ?_⟩
    subst e
    have h1 := ((r.mem a).mp ha).2.2.2
    have h2 := (hNm a).mp hb
    have := List.count_pos_iff.mpr h2.1
    (first | lia | omega)
  · intro k
    have hk := hin k
    rw [List.mem_append, r.mem k, hNm k]
    by_cases q : k = v
    · subst q
      have a1 : setB don k true k = true := if_pos rfl
      rw [a1, hv, hvd]
      constructor
      · rintro (⟨_, _, h, _⟩ | ⟨h1, h2⟩)
        · cases h
        · have := List.count_pos_iff.mpr h1; (first | lia | omega)
      · rintro ⟨_, h, _⟩; cases h
    · have a1 : setB don v true k = don k := if_neg q
      have a2 : setB out v false k = out k := if_neg q
      rw [a1, a2]
      constructor
      · rintro (⟨h1, h2, h3, h4⟩ | ⟨h1, h2⟩)
        · exact ⟨h1, h2, h3, by (first | lia | omega)⟩
        · have hp := List.count_pos_iff.mpr h1
          refine ⟨r.sub v hvk k h1, ?_, ?_, by (first | lia | omega)⟩
          · cases h3 : don k with
            | false => rfl
            | true => have := (r.kd k h3).2; (first | lia | omega)
          · cases h3 : out k with
            | false => rfl
            | true => have := (r.ko k h3).2.2; (first | lia | omega)
      · rintro ⟨h1, h2, h3, h4⟩
        by_cases q2 : k ∈ succ v
        · exact .inr ⟨q2, by (first | lia | omega)⟩
        · exact .inl ⟨h1, h2, h3, by rw [hk, h4, List.count_eq_zero.mpr q2]⟩
  · intro k h
    have hk := hin k
    unfold setB at h
    by_cases q : k = v
    · rw [if_pos q] at h; cases h
    · rw [if_neg q] at h
      obtain ⟨h1, h2, h3⟩ := r.ko k h
      exact ⟨h1, by unfold setB; rw [if_neg q]; exact h2, by (first | lia | omega)⟩
  · intro k h
    have hk := hin k
    unfold setB at h
    by_cases q : k = v
    · rw [q]; rw [q] at hk; exact ⟨hvk, by (first | lia | omega)⟩
    · rw [if_neg q] at h
      obtain ⟨h1, h2⟩ := r.kd k h
      exact ⟨h1, by (first | lia | omega)⟩
noncomputable def addB (don : Int → Bool) (vs : List Int) : Int → Bool := fun k => don k || decide (k ∈ vs)
noncomputable def subB (out : Int → Bool) (vs : List Int) : Int → Bool := fun k => out k && !decide (k ∈ vs)
theorem addB_snoc {don : Int → Bool} {vs : List Int} {v : Int} : addB don (vs ++ [v]) = setB (addB don vs) v true := by
  funext k
  unfold addB setB
  by_cases q : k = v
  · rw [if_pos q]; simp [q]
  · rw [if_neg q]; simp [q]
theorem subB_snoc {out : Int → Bool} {vs : List Int} {v : Int} : subB out (vs ++ [v]) = setB (subB out vs) v false := by
  funext k
  unfold subB setB
  by_cases q : k = v
  · rw [if_pos q]; simp [q]
  · rw [if_neg q]; simp [q]
noncomputable def dnHead : SP := (sIf (tOf (pBin opIsN (pUn (opAttrS 1) (pName 0)) pNone)) sDead sNil)
theorem done_eq : pt_done = (sSeq dnHead (sSeq (sAssign (pUn (opAttrS 0) (pName 0)) (aName 2)) (sFor (iSeq (pName 1)) (aName 3) (sSeq (sIf (tOf (pBin opIsN (pWal (pBm "dict" opGet (pName 2) (lCons (pName 3) lNil)) (aName 4)) pNone)) sDead sNil) (sSeq (sAssign (pUn (opAttrN 1) (pName 4)) (aName 5)) (sSeq (sIf (tOf (pBin opNe (pName 5) (pInt (-1)))) (sIf (tOf (pBin opGe (pName 5) (pInt 0))) sDead (sIf (tOf (pBin opEq (pName 5) (pInt (-2)))) sDead sDead)) sNil) (sSeq (sAssign (pInt (-2)) (aAttrN 1 (pName 4))) (sSeq dnInner (sAugS 3 iAdd (pName 0) (pInt 1)))))))))) := rfl
theorem done_spec {Q : AV → AH → Prop} {E : Ex → AH → Prop} {don out : Int → Bool} {rl : Addr} {R vs : List Int} (r : Run hp own x d n2i rec suc keys succ don out rl R) (hnd : vs.Nodup) (ho : ∀ v ∈ vs, out v = true)
    (h : ∀ hp' N, Run hp' own x d n2i rec suc keys succ (addB don vs) (subB out vs) rl (R ++ N) → Frm hp own hp' own → Q .none hp') :
    fp_done (.ref x :: intsA vs) Q E hp := by
  have hvl : vs.length ≤ keys.length := len_sub hnd fun v hv => (r.ko v (ho v hv)).1
  have hsm := r.small
  refine ⟨by simp, by simp; (first | lia | omega), fun t ht => ?_⟩
  have r1 := r.ext (Ext.new (.tup (intsA vs)) ht)
  have F1 : Frm hp own (upd hp t (.tup (intsA vs))) own := Frm.of_ext (Ext.new _ ht)
  have ht1 := upd_self hp t (.tup (intsA vs))
  have hto : ¬ own t := fun q => r.S.al t q ht
  show pt_done _ _ ⟨_, upd hp t (.tup (intsA vs))⟩
  rw [done_eq]
  generalize upd hp t (.tup (intsA vs)) = hp1 at r1 F1 ht1
  unfold dnHead
  dsimp only [pName, pInt, pBool, pNone, pBin, pUn, tOf, tNot, tAnd, tOr, pIf, lNil, lCons, lStar, starOf, pList, pTuple, pTruth, pSlice, sAssign, aName, aTuple, aItem, aAttrS, aAttrN, sAugName, sAugItem, sAugS, sAugN, sNil, sSeq, sIf, sRet, sFlow, sExpr, sFor, sWhile, sTry, sRaise, sDel, sPair, sDead, vNil, vCons, vOf, iSeq, iRange, iVals, pBi, pBm, pMeth, pCall, pNewS, pNewN, pWal, pComp, cTest, cEmit, cFor, cLoop, pDict0, pListRange, pIterNext, pNextCall, opNextCall, opSet0, opAdd, opSub, opMul, opDiv, opMod, opNeg, opEq, opNe, opLt, opGt, opGe, opIsN, opIsNotN, opIn, opNotIn, opItem, opSetItem, opAttrS, opSetS, opAttrN, opSetN, opLen, opSum, opMin2, opMax2, opAppend, opExtend, opClear, opPop, opCount, opGet, opAdd', opTuple, opList, opSorted, opDel, iAdd, AObj.fld, AObj.setFld, setvs, retV, noX, Option.map, Option.getD, ↓reduceIte, Bool.false_eq_true, Bool.not_true, Bool.not_false, List.cons_append, List.nil_append]
  refine ⟨.ref x, rfl, d, _, _, r1.S.hx, r1.S.hd, rfl, ?_⟩
  dsimp only [pName, pInt, pBool, pNone, pBin, pUn, tOf, tNot, tAnd, tOr, pIf, lNil, lCons, lStar, starOf, pList, pTuple, pTruth, pSlice, sAssign, aName, aTuple, aItem, aAttrS, aAttrN, sAugName, sAugItem, sAugS, sAugN, sNil, sSeq, sIf, sRet, sFlow, sExpr, sFor, sWhile, sTry, sRaise, sDel, sPair, sDead, vNil, vCons, vOf, iSeq, iRange, iVals, pBi, pBm, pMeth, pCall, pNewS, pNewN, pWal, pComp, cTest, cEmit, cFor, cLoop, pDict0, pListRange, pIterNext, pNextCall, opNextCall, opSet0, opAdd, opSub, opMul, opDiv, opMod, opNeg, opEq, opNe, opLt, opGt, opGe, opIsN, opIsNotN, opIn, opNotIn, opItem, opSetItem, opAttrS, opSetS, opAttrN, opSetN, opLen, opSum, opMin2, opMax2, opAppend, opExtend, opClear, opPop, opCount, opGet, opAdd', opTuple, opList, opSorted, opDel, iAdd, AObj.fld, AObj.setFld, setvs, retV, noX, Option.map, Option.getD, ↓reduceIte, Bool.false_eq_true, Bool.not_true, Bool.not_false, List.cons_append, List.nil_append]
  refine ⟨.ref x, rfl, d, _, _, r1.S.hx, r1.S.hd, rfl, ?_⟩
  refine ⟨_, rfl, t, rfl, .inr (.inl ⟨_, ht1, ?_⟩)⟩
  refine ⟨fun i σ => σ.loc 0 = some (.ref x) ∧ σ.loc 2 = some (.ref n2i) ∧ σ.hp t = some (.tup (intsA vs)) ∧ Frm hp own σ.hp own ∧ ∃ N, Run σ.hp own x d n2i rec suc keys succ (addB don (vs.take i)) (subB out (vs.take i)) rl (R ++ N), ?_, ?_⟩
  · refine ⟨rfl, rfl, ht1, F1, [], ?_⟩
    have e1 : addB don (vs.take 0) = don := by funext k; simp [addB]
    have e2 : subB out (vs.take 0) = out := by funext k; simp [subB]
    rw [e1, e2, List.append_nil]
    exact r1
  · rintro i ⟨l, g⟩ ⟨l0, l2, ht', F', N, r'⟩
    dsimp only at l0 l2 ht' F' r'
    refine ⟨ht', ?_⟩
    by_cases hi : i < vs.length
    · have e1 : (intsA vs)[i]? = some (.int vs[i]) := by simp [hi]
      rw [e1]
      generalize hv : vs[i] = v
      have etake : vs.take (i + 1) = vs.take i ++ [v] := by rw [take_next hi, hv]
      have hvt : v ∉ vs.take i := by
        have : (vs.take (i + 1)).Nodup := List.Nodup.sublist (List.take_sublist ..) hnd
        rw [etake, List.nodup_append] at this
        exact fun h => this.2.2 v h v (List.mem_singleton.mpr rfl) rfl
      have hov : subB out (vs.take i) v = true := by
        unfold subB; rw [ho v (hv ▸ List.getElem_mem hi)]; simpa using hvt
      obtain ⟨hvk, hvd, hvi⟩ := r'.ko v hov
      have S' := r'.S
      obtain ⟨ep, en⟩ := S'.hn
      obtain ⟨dv, ev, qv⟩ := S'.hr v hvk
      have hcv : cntOf keys succ (addB don (vs.take i)) (subB out (vs.take i)) v = -1 := by unfold cntOf; rw [hvd, hov]; rfl
      rw [hcv] at ev
      dsimp only [pName, pInt, pBool, pNone, pBin, pUn, tOf, tNot, tAnd, tOr, pIf, lNil, lCons, lStar, starOf, pList, pTuple, pTruth, pSlice, sAssign, aName, aTuple, aItem, aAttrS, aAttrN, sAugName, sAugItem, sAugS, sAugN, sNil, sSeq, sIf, sRet, sFlow, sExpr, sFor, sWhile, sTry, sRaise, sDel, sPair, sDead, vNil, vCons, vOf, iSeq, iRange, iVals, pBi, pBm, pMeth, pCall, pNewS, pNewN, pWal, pComp, cTest, cEmit, cFor, cLoop, pDict0, pListRange, pIterNext, pNextCall, opNextCall, opSet0, opAdd, opSub, opMul, opDiv, opMod, opNeg, opEq, opNe, opLt, opGt, opGe, opIsN, opIsNotN, opIn, opNotIn, opItem, opSetItem, opAttrS, opSetS, opAttrN, opSetN, opLen, opSum, opMin2, opMax2, opAppend, opExtend, opClear, opPop, opCount, opGet, opAdd', opTuple, opList, opSorted, opDel, iAdd, AObj.fld, AObj.setFld, setvs, retV, noX, Option.map, Option.getD, ↓reduceIte, Bool.false_eq_true, Bool.not_true, Bool.not_false, List.cons_append, List.nil_append]
      refine ⟨_, l2, ⟨n2i, _, rfl, en, rfl⟩, _, rfl, _, ep, en, ?_⟩
      rw [find_rec hvk]
      refine ⟨_, rfl, dv, _, _, ev, qv, rfl, _, rfl, ?_⟩
      refine ⟨_, rfl, dv, _, ev, qv, ?_⟩
      have S2 := S'.setc hvk (-2) qv (S'.odd hvk ev)
      have hrl2 := upd_at (o := .rcd dv [some (.int v), some (.int (-2)), some (.ref (suc v))]) (ne_obj r'.hrl ev nofun) r'.hrl
      have ht2 := upd_at (o := .rcd dv [some (.int v), some (.int (-2)), some (.ref (suc v))]) (ne_obj ht' ev nofun) ht'
      have F2 := F'.trans (Frm.set (o := .rcd dv [some (.int v), some (.int (-2)), some (.ref (suc v))]) (S'.orr v hvk))
      have e3 : ([some (AV.int v), some (AV.int (-1)), some (AV.ref (suc v))] ++ List.replicate (1 + 1 - [some (AV.int v), some (AV.int (-1)), some (AV.ref (suc v))].length) none).set 1 (some (.int (-2))) = [some (.int v), some (.int (-2)), some (.ref (suc v))] := rfl
      dsimp only
      rw [e3]
      generalize upd g (rec v) (.rcd dv [some (.int v), some (.int (-2)), some (.ref (suc v))]) = hp2 at S2 hrl2 ht2 F2
      refine dn_inner (don := addB don (vs.take i)) (out := subB out (vs.take i)) (R := R ++ N) hvk hvd hvi r'.sub r'.small ?_ ?_ S2 hrl2 r'.nrl r'.orl l0 l2 rfl ?_
      · exact Nat.lt_of_le_of_lt (len_sub r'.nd fun k hk => ((r'.mem k).mp hk).1) hsm
      · intro k hk
        unfold cntOf
        cases h3 : addB don (vs.take i) k with
        | true => have := (r'.kd k h3).2; (first | lia | omega)
        | false =>
          cases h4 : subB out (vs.take i) k with
          | true => have := (r'.ko k h4).2.2; (first | lia | omega)
          | false => rfl
      · intro l' hp3 N' m0 m1 m2 S3 hrl3 hN hNm F3
        dsimp only [pName, pInt, pBool, pNone, pBin, pUn, tOf, tNot, tAnd, tOr, pIf, lNil, lCons, lStar, starOf, pList, pTuple, pTruth, pSlice, sAssign, aName, aTuple, aItem, aAttrS, aAttrN, sAugName, sAugItem, sAugS, sAugN, sNil, sSeq, sIf, sRet, sFlow, sExpr, sFor, sWhile, sTry, sRaise, sDel, sPair, sDead, vNil, vCons, vOf, iSeq, iRange, iVals, pBi, pBm, pMeth, pCall, pNewS, pNewN, pWal, pComp, cTest, cEmit, cFor, cLoop, pDict0, pListRange, pIterNext, pNextCall, opNextCall, opSet0, opAdd, opSub, opMul, opDiv, opMod, opNeg, opEq, opNe, opLt, opGt, opGe, opIsN, opIsNotN, opIn, opNotIn, opItem, opSetItem, opAttrS, opSetS, opAttrN, opSetN, opLen, opSum, opMin2, opMax2, opAppend, opExtend, opClear, opPop, opCount, opGet, opAdd', opTuple, opList, opSorted, opDel, iAdd, AObj.fld, AObj.setFld, setvs, retV, noX, Option.map, Option.getD, ↓reduceIte, Bool.false_eq_true, Bool.not_true, Bool.not_false, List.cons_append, List.nil_append]
        have S4 := S3.setd (.ref rl) (keys.countP fun k => addB don (vs.take i) k || subB out (vs.take i) k) (keys.countP (addB don (vs.take i)) + 1)
        refine ⟨_, m0, d, _, _, S3.hx, S3.hd, rfl, d, _, S3.hx, S3.hd, ⟨_, _, _, _, rfl⟩, ?_⟩
        have ht3 := (F3 t _ ht2 hto).1
        refine ⟨m0, m2, upd_at (ne_obj ht3 S3.hd nofun) ht3, (F2.trans F3).trans (Frm.set S3.od), N ++ N', ?_⟩
        rw [etake, addB_snoc, subB_snoc, ← List.append_assoc]
        exact run_done r' hov S4 (upd_at (ne_obj hrl3 S3.hd nofun) hrl3) hN hNm
    · have e1 : (intsA vs)[i]? = none := by simp; (first | lia | omega)
      rw [e1]
      rw [List.take_of_length_le (by (first | lia | omega) : vs.length ≤ i)] at r'
      exact h g N r' F'
end
end
section
noncomputable def keysN (n : Nat) : List Int := (List.range n).map fun i : Nat => (i : Int)
theorem mem_keysN {n : Nat} {k : Int} : k ∈ keysN n ↔ 0 ≤ k ∧ k < n := by
  unfold keysN
  rw [List.mem_map]
  constructor
  · rintro ⟨i, hi, rfl⟩; rw [List.mem_range] at hi; (first | lia | omega)
  · rintro ⟨h1, h2⟩; exact ⟨k.toNat, List.mem_range.mpr (by (first | lia | omega)), by (first | lia | omega)⟩
theorem len_keysN (n : Nat) : (keysN n).length = n := by unfold keysN; simp
theorem keysN_succ (n : Nat) : keysN (n + 1) = keysN n ++ [(n : Int)] := by unfold keysN; rw [List.range_succ]; simp
theorem get_keysN {n i : Nat} (h : i < n) : (keysN n)[i]? = some (i : Int) := by unfold keysN; simp [h]
theorem nodup_keysN (n : Nat) : (keysN n).Nodup := by
  induction n with
  | zero => exact List.nodup_nil
  | succ n ih =>
    rw [keysN_succ, List.nodup_append]
    exact ⟨ih, by simp, fun a ha b hb e => by rw [List.mem_singleton.mp hb] at e; rw [e] at ha; have := (mem_keysN.mp ha).2; (first | lia | omega)⟩
theorem rangeL_keys (n : Nat) : rangeL 0 1 n = keysN n := by unfold rangeL keysN; simp
theorem rangeOf_n {n : Nat} (h : n ≤ 1000000) : rangeOf [.int n] = some (keysN n) := by
  show (if -1000000 ≤ (n : Int) ∧ (n : Int) ≤ 1000000 then some (rangeL 0 1 (n : Int).toNat) else none) = _
  rw [if_pos (by (first | lia | omega)), ← rangeL_keys]; rfl
theorem sorted_eq {l l' : List Int} (p : l.Perm l') (h : l.Pairwise (· ≤ ·)) (h' : l'.Pairwise (· ≤ ·)) : l = l' := by
  induction l generalizing l' with
  | nil => exact (List.nil_perm.mp p).symm
  | cons a l ih =>
    cases l' with
    | nil => exact absurd (List.perm_nil.mp p) nofun
    | cons b l' =>
      rw [List.pairwise_cons] at h h'
      have hab : a = b := by
        have h1 : b ∈ a :: l := p.symm.subset (List.mem_cons_self ..)
        have h2 : a ∈ b :: l' := p.subset (List.mem_cons_self ..)
        rcases List.mem_cons.mp h1 with q | q
        · exact q.symm
        · rcases List.mem_cons.mp h2 with q2 | q2
          · exact q2
          · have := h.1 b q; have := h'.1 a q2; (first | lia | omega)
      subst hab
      rw [ih ((List.perm_cons a).mp p) h.2 h'.2]
noncomputable def hgt (hs : List Int) (k : Int) : Int := (hs[k.toNat]?).getD 0
theorem item_list {σ : St} {a : Addr} {l : List AV} {k : Int} {v : AV} (h : σ.hp a = some (.list l)) (h0 : 0 ≤ k) (h1 : l[k.toNat]? = some v) : σ.item a k = some v := by
  unfold St.item; rw [h]
  obtain ⟨hl, _⟩ := List.getElem?_eq_some_iff.mp h1
  have : seqIndex? k l.length = some k.toNat := by
    unfold seqIndex?
    simp only [if_neg (by (first | lia | omega) : ¬ k < 0)]
    rw [if_pos (by simp only [Bool.and_eq_true, decide_eq_true_eq]; (first | lia | omega))]
  simp only
  rw [this]
  exact h1
theorem item_ints {σ : St} {a : Addr} {l : List Int} {k : Int} (h : σ.hp a = some (.list (intsA l))) (h0 : 0 ≤ k) (h1 : k < l.length) : σ.item a k = some (.int (hgt l k)) := by
  refine item_list h h0 ?_
  unfold hgt
  have : k.toNat < l.length := by (first | lia | omega)
  simp [this]
theorem item_flist {σ : St} {a : Addr} {l : List AV} {k : Int} {v : AV} (h : σ.hp a = some (.flist l)) (h0 : 0 ≤ k) (h1 : l[k.toNat]? = some v) : σ.item a k = some v := by
  unfold St.item; rw [h]
  obtain ⟨hl, _⟩ := List.getElem?_eq_some_iff.mp h1
  have : seqIndex? k l.length = some k.toNat := by
    unfold seqIndex?
    simp only [if_neg (by (first | lia | omega) : ¬ k < 0)]
    rw [if_pos (by simp only [Bool.and_eq_true, decide_eq_true_eq]; (first | lia | omega))]
  simp only
  rw [this]
  exact h1
theorem lst_flist {σ : St} {a : Addr} {l : List AV} (h : σ.hp a = some (.flist l)) : σ.lst a = some l := by unfold St.lst; rw [h]
section
variable {n : Nat}
theorem mod_key {c : Int} (hn : 0 < n) : c % n ∈ keysN n := mem_keysN.mpr ⟨Int.emod_nonneg _ (by (first | lia | omega)), Int.emod_lt_of_pos _ (by (first | lia | omega))⟩
theorem min_key {a b : Int} (ha : a ∈ keysN n) (hb : b ∈ keysN n) : min a b ∈ keysN n ∧ max a b ∈ keysN n := by
  simp only [mem_keysN] at *; (first | lia | omega)
end
end
section
noncomputable abbrev Loc := Nat → Option AV
/-- how a value shows a thing; it outlasts growth of the heap -/
structure VR (α : Type) where
  r : α → AV → AH → Prop
  m : ∀ {x v hp hp'}, Ext hp hp' → r x v hp → r x v hp'
/-- the known heap hb lies in the heap hp; both grow, and the known one takes in nothing that stood unknown -/
structure Gr (hb hp hb' hp' : AH) : Prop where
  b : Ext hb hb'
  e : Ext hp hp'
  s : Ext hb' hp'
  n : ∀ a, hb a = none → hp a ≠ none → hb' a = none
theorem Gr.refl {hb hp : AH} (s : Ext hb hp) : Gr hb hp hb hp := ⟨Ext.refl _, Ext.refl _, s, fun _ h _ => h⟩
theorem Gr.trans {hb hp hb' hp' hb2 hp2 : AH} (g : Gr hb hp hb' hp') (h : Gr hb' hp' hb2 hp2) : Gr hb hp hb2 hp2 := ⟨g.b.trans h.b, g.e.trans h.e, h.s, fun a h1 h2 => h.n a (g.n a h1 h2) (g.e.some h2)⟩
theorem Gr.new {hb hp : AH} {a : Addr} (s : Ext hb hp) (o : AObj) (h : hp a = none) : Gr hb hp (upd hb a o) (upd hp a o) :=
  ⟨Ext.new o (s.none h), Ext.new o h, fun c o' e => by
    by_cases q : c = a
    · rw [q, upd_self] at e ⊢; exact e
    · rw [upd_ne q] at e ⊢; exact s _ _ e, fun c h1 h2 => by
    have q : c ≠ a := fun q => h2 (by rw [q]; exact h)
    rw [upd_ne q]; exact h1⟩
noncomputable def uni (h1 h2 : AH) : AH := fun a => match h1 a with
  | some o => some o
  | none => h2 a
theorem uni_l {h1 h2 : AH} : Ext h1 (uni h1 h2) := fun a o e => by unfold uni; rw [e]
theorem uni_r {h1 h2 hp : AH} (e1 : Ext h1 hp) (e2 : Ext h2 hp) : Ext h2 (uni h1 h2) := fun a o e => by
  unfold uni
  cases h : h1 a with
  | none => exact e
  | some o' => have := e1 _ _ h; rw [e2 _ _ e] at this; exact this.symm ▸ rfl
theorem uni_s {h1 h2 hp : AH} (e1 : Ext h1 hp) (e2 : Ext h2 hp) : Ext (uni h1 h2) hp := fun a o e => by
  unfold uni at e
  cases h : h1 a with
  | none => rw [h] at e; exact e2 _ _ e
  | some o' => rw [h] at e; cases e; exact e1 _ _ h
/-- more is known from the start -/
theorem Gr.more {hb hp hb' hp' hb2 : AH} (g : Gr hb hp hb' hp') (e : Ext hb hb2) (s : Ext hb2 hp) : Gr hb2 hp (uni hb2 hb') hp' ∧ Ext hb' (uni hb2 hb') :=
  ⟨⟨uni_l, g.e, uni_s (s.trans g.e) g.s, fun a h1 h2 => by unfold uni; rw [h1]; exact g.n a (e.none h1) h2⟩, uni_r (s.trans g.e) g.s⟩
noncomputable def VI : VR Int := ⟨fun n v _ => v = .int n, fun _ h => h⟩
noncomputable def VB : VR Bool := ⟨fun n v _ => v = .bool n, fun _ h => h⟩
section
variable {α β γ : Type}
noncomputable def All2 (R : VR α) : List α → List AV → AH → Prop
  | [], [], _ => True
  | x :: l, v :: vs, hp => R.r x v hp ∧ All2 R l vs hp
  | _, _, _ => False
theorem All2.nil_inv {R : VR α} {vs : List AV} {hp : AH} (h : All2 R [] vs hp) : vs = [] := by
  cases vs with
  | nil => rfl
  | cons => exact h.elim
theorem All2.cons_inv {R : VR α} {x : α} {l : List α} {vs : List AV} {hp : AH} (h : All2 R (x :: l) vs hp) : ∃ v vs', vs = v :: vs' ∧ R.r x v hp ∧ All2 R l vs' hp := by
  cases vs with
  | nil => exact h.elim
  | cons v vs => exact ⟨v, vs, rfl, h.1, h.2⟩
theorem All2.ext {R : VR α} {hp hp' : AH} (e : Ext hp hp') {l : List α} : ∀ {vs : List AV}, All2 R l vs hp → All2 R l vs hp' := by
  induction l with
  | nil => intro vs h; cases h.nil_inv; trivial
  | cons x l ih => intro vs h; obtain ⟨v, vs, rfl, h1, h2⟩ := h.cons_inv; exact ⟨R.m e h1, ih h2⟩
theorem All2.len {R : VR α} {hp : AH} {l : List α} : ∀ {vs : List AV}, All2 R l vs hp → vs.length = l.length := by
  induction l with
  | nil => intro vs h; cases h.nil_inv; rfl
  | cons x l ih => intro vs h; obtain ⟨v, vs, rfl, h1, h2⟩ := h.cons_inv; exact congrArg (· + 1) (ih h2)
theorem All2.append {R : VR α} {hp : AH} {l l' : List α} {vs' : List AV} (h' : All2 R l' vs' hp) : ∀ {vs : List AV}, All2 R l vs hp → All2 R (l ++ l') (vs ++ vs') hp := by
  induction l with
  | nil => intro vs h; cases h.nil_inv; exact h'
  | cons x l ih => intro vs h; obtain ⟨v, vs, rfl, h1, h2⟩ := h.cons_inv; exact ⟨h1, ih h2⟩
theorem All2.get {R : VR α} {hp : AH} {l : List α} : ∀ {vs : List AV} {i : Nat} {x : α}, All2 R l vs hp → l[i]? = some x → ∃ v, vs[i]? = some v ∧ R.r x v hp := by
  induction l with
  | nil => intro vs i x h e; cases e
  | cons y l ih =>
    intro vs i x h e
    obtain ⟨v, vs, rfl, h1, h2⟩ := h.cons_inv
    cases i with
    | zero => cases e; exact ⟨v, rfl, h1⟩
    | succ i => exact ih (vs := vs) (i := i) h2 e
theorem All2.get' {R : VR α} {hp : AH} {l : List α} : ∀ {vs : List AV} {i : Nat} {v : AV}, All2 R l vs hp → vs[i]? = some v → ∃ x, l[i]? = some x ∧ R.r x v hp := by
  induction l with
  | nil => intro vs i v h e; cases h.nil_inv; cases e
  | cons y l ih =>
    intro vs i x h e
    obtain ⟨v, vs, rfl, h1, h2⟩ := h.cons_inv
    cases i with
    | zero => cases e; exact ⟨y, rfl, h1⟩
    | succ i => exact ih (vs := vs) (i := i) h2 e
theorem All2.ints {hp : AH} {l : List Int} : ∀ {vs : List AV}, All2 VI l vs hp ↔ vs = intsA l := by
  induction l with
  | nil => intro vs; exact ⟨fun h => h.nil_inv, fun h => h ▸ trivial⟩
  | cons x l ih =>
    intro vs
    refine ⟨fun h => ?_, fun h => h ▸ ⟨rfl, ih.mpr rfl⟩⟩
    obtain ⟨v, vs, rfl, rfl, h2⟩ := h.cons_inv
    rw [ih.mp h2]; rfl
/-- a list -/
noncomputable def VL (R : VR α) : VR (List α) := ⟨fun l v hp => ∃ a vs, v = .ref a ∧ hp a = some (.list vs) ∧ All2 R l vs hp, fun e ⟨a, vs, h1, h2, h3⟩ => ⟨a, vs, h1, e _ _ h2, h3.ext e⟩⟩
/-- a pair -/
noncomputable def VP (R : VR α) (S : VR β) : VR (α × β) := ⟨fun p v hp => ∃ a u w, v = .ref a ∧ hp a = some (.tup [u, w]) ∧ R.r p.1 u hp ∧ S.r p.2 w hp, fun e ⟨a, u, w, h1, h2, h3, h4⟩ => ⟨a, u, w, h1, e _ _ h2, R.m e h3, S.m e h4⟩⟩
noncomputable abbrev VII : VR (Int × Int) := VP VI VI
theorem vl_ints {l : List Int} {v : AV} {hp : AH} : (VL VI).r l v hp ↔ ∃ a, v = .ref a ∧ hp a = some (.list (intsA l)) := by
  constructor
  · rintro ⟨a, vs, h1, h2, h3⟩; exact ⟨a, h1, by rw [← All2.ints.mp h3]; exact h2⟩
  · rintro ⟨a, h1, h2⟩; exact ⟨a, _, h1, h2, All2.ints.mpr rfl⟩
/-- an expression gives x, a test b, a source the list l; the heap only grows, and what is needed to tell x is known -/
noncomputable def Z (p : EP) (R : VR α) (x : α) (lo : Loc) (hb : AH) : Prop := ∀ hp, Ext hb hp → ∀ (Q : AV → St → Prop) (E : Ex → St → Prop), (∀ hb' hp' v, Gr hb hp hb' hp' → R.r x v hb' → Q v ⟨lo, hp'⟩) → p Q E ⟨lo, hp⟩
noncomputable def ZT (t : TP) (b : Bool) (lo : Loc) (hb : AH) : Prop := ∀ hp, Ext hb hp → ∀ (Q : Bool → St → Prop) (E : Ex → St → Prop), (∀ hb' hp', Gr hb hp hb' hp' → Q b ⟨lo, hp'⟩) → t Q E ⟨lo, hp⟩
noncomputable def ZI (q : LP) (R : VR α) (xs : List α) (lo : Loc) (hb : AH) : Prop := ∀ hp, Ext hb hp → ∀ (Q : List AV → St → Prop) (E : Ex → St → Prop), (∀ hb' hp' vs, Gr hb hp hb' hp' → All2 R xs vs hb' → Q vs ⟨lo, hp'⟩) → q Q E ⟨lo, hp⟩
noncomputable def ZS (p : IP) (R : VR α) (l : List α) (lo : Loc) (hb : AH) : Prop := ∀ hp, Ext hb hp → ∀ (Q : List AV → (St → Prop) → St → Prop) (E : Ex → St → Prop), (∀ hb' hp' vs (guard : St → Prop), Gr hb hp hb' hp' → All2 R l vs hb' → (∀ σ : St, Ext hb' σ.hp → guard σ) → Q vs guard ⟨lo, hp'⟩) → p Q E ⟨lo, hp⟩
/-- what a turn of a comprehension adds -/
noncomputable def ZC (c : CP) (R : VR β) (ys : List β) (L : Loc → Prop) (lo : Loc) (hb : AH) : Prop := ∀ hp, Ext hb hp → ∀ (acc : List AV) (Q : List AV → St → Prop), acc.length + ys.length < 1000000 → (∀ lo2 hb' hp' vs, L lo2 → Gr hb hp hb' hp' → All2 R ys vs hb' → Q (acc ++ vs) ⟨lo2, hp'⟩) → c Q acc ⟨lo, hp⟩
variable {p q : EP} {t t' : TP} {R : VR α} {S : VR β} {x y : Int} {lo : Loc} {hb hb2 hp : AH} {i j n : Nat} {a b : Addr} {v : AV} {l m : List Int} {c c' : Bool}
theorem Z.ext {x : α} (h : Z p R x lo hb) (e : Ext hb hb2) : Z p R x lo hb2 := fun hp s Q E k => h hp (e.trans s) Q E fun hb' hp' v g hv => by
  obtain ⟨g2, e2⟩ := g.more e s
  exact k _ _ v g2 (R.m e2 hv)
theorem ZT.ext (h : ZT t c lo hb) (e : Ext hb hb2) : ZT t c lo hb2 := fun hp s Q E k => h hp (e.trans s) Q E fun hb' hp' g => k _ _ (g.more e s).1
theorem ZI.ext {r : LP} {xs : List α} (h : ZI r R xs lo hb) (e : Ext hb hb2) : ZI r R xs lo hb2 := fun hp s Q E k => h hp (e.trans s) Q E fun hb' hp' v g hv => by
  obtain ⟨g2, e2⟩ := g.more e s
  exact k _ _ v g2 (hv.ext e2)
theorem z_name {x : α} (h : lo i = some v) (hr : R.r x v hb) : Z (pName i) R x lo hb := fun hp s Q E k => ⟨_, h, k _ _ _ (.refl s) hr⟩
theorem z_nameI (h : lo i = some (.int x)) : Z (pName i) VI x lo hb := z_name h rfl
theorem z_nameL (h : lo i = some (.ref a)) (ha : hb a = some (.list (intsA l))) : Z (pName i) (VL VI) l lo hb := z_name h (vl_ints.mpr ⟨a, rfl, ha⟩)
theorem z_int : Z (pInt x) VI x lo hb := fun hp s Q E k => k _ _ _ (.refl s) rfl
theorem z_bool : Z (pBool c) VB c lo hb := fun hp s Q E k => k _ _ _ (.refl s) rfl
theorem z_bin {γ : Type} {R' : VR γ} {x : α} {y : β} {z : γ} {f : AV → AV → EP} (h1 : Z p R x lo hb) (h2 : Z q S y lo hb)
    (h : ∀ hb1 hp1 u w (Q : AV → St → Prop) (E : Ex → St → Prop), Ext hb1 hp1 → R.r x u hb1 → S.r y w hb1 → (∀ hb2 hp2 v, Gr hb1 hp1 hb2 hp2 → R'.r z v hb2 → Q v ⟨lo, hp2⟩) → f u w Q E ⟨lo, hp1⟩) : Z (pBin f p q) R' z lo hb := fun hp s Q E k =>
  h1 hp s _ _ fun hb2 hp2 u g hu => (h2.ext g.b) hp2 g.s _ _ fun hb3 hp3 w g3 hw => h hb3 hp3 u w Q E g3.s (R.m g3.b hu) hw fun hb4 hp4 v g4 hv => k hb4 hp4 v (g.trans (g3.trans g4)) hv
theorem z_add (h1 : Z p VI x lo hb) (h2 : Z q VI y lo hb)  : Z (pBin opAdd p q) VI (x + y) lo hb := z_bin h1 h2 (by rintro hb1 hp1 _ _ Q E s rfl rfl k; exact k _ _ _ (.refl s) rfl)
theorem z_div (h1 : Z p VI x lo hb) (h2 : Z q VI y lo hb) (h : 0 < y) (h' : y < 1073741824) : Z (pBin opDiv p q) VI (x / y) lo hb := z_bin h1 h2 (by rintro hb1 hp1 _ _ Q E s rfl rfl k; exact ⟨h, h', k _ _ _ (.refl s) rfl⟩)
theorem z_mod (h1 : Z p VI x lo hb) (h2 : Z q VI y lo hb) (h : 0 < y) : Z (pBin opMod p q) VI (x % y) lo hb := z_bin h1 h2 (by rintro hb1 hp1 _ _ Q E s rfl rfl k; exact ⟨h, k _ _ _ (.refl s) rfl⟩)
theorem z_pow (h1 : Z p VI x lo hb) (h2 : Z q VI y lo hb) (h : 0 ≤ y) (h' : y ≤ 1000) (hx : x.natAbs < 2 ^ 60) : Z (pBin opPow p q) VI (x ^ y.toNat) lo hb := z_bin h1 h2 (by rintro hb1 hp1 _ _ Q E s rfl rfl k; exact ⟨h, h', hx, k _ _ _ (.refl s) rfl⟩)
theorem z_shr (h1 : Z p VI x lo hb) (h2 : Z q VI y lo hb) (h : 0 ≤ y) : Z (pBin opShr p q) VI (x / 2 ^ y.toNat) lo hb := z_bin h1 h2 (by rintro hb1 hp1 _ _ Q E s rfl rfl k; exact ⟨h, k _ _ _ (.refl s) rfl⟩)
theorem z_and (h1 : Z p VI x lo hb) (h2 : Z q VI y lo hb)  : Z (pBin opAnd p q) VI (Builtin.bitAnd x y) lo hb := z_bin h1 h2 (by rintro hb1 hp1 _ _ Q E s rfl rfl k; exact k _ _ _ (.refl s) rfl)
theorem z_or (h1 : Z p VI x lo hb) (h2 : Z q VI y lo hb)  : Z (pBin opOr p q) VI (Builtin.bitOr x y) lo hb := z_bin h1 h2 (by rintro hb1 hp1 _ _ Q E s rfl rfl k; exact k _ _ _ (.refl s) rfl)
theorem z_eq (h1 : Z p VI x lo hb) (h2 : Z q VI y lo hb) : Z (pBin opEq p q) VB (decide (x = y)) lo hb := z_bin h1 h2 (by rintro hb1 hp1 _ _ Q E s rfl rfl k; exact k _ _ _ (.refl s) rfl)
theorem z_ne (h1 : Z p VI x lo hb) (h2 : Z q VI y lo hb) : Z (pBin opNe p q) VB (!decide (x = y)) lo hb := z_bin h1 h2 (by rintro hb1 hp1 _ _ Q E s rfl rfl k; exact k _ _ _ (.refl s) rfl)
theorem z_neB (h1 : Z p VB c lo hb) (h2 : Z q VB c' lo hb) : Z (pBin opNe p q) VB (c != c') lo hb := z_bin h1 h2 (by rintro hb1 hp1 _ _ Q E s rfl rfl k; exact k _ _ _ (.refl s) rfl)
theorem z_eqL (h1 : Z p (VL VI) l lo hb) (h2 : Z q (VL VI) m lo hb) : Z (pBin opEq p q) VB (decide (l = m)) lo hb := z_bin h1 h2 (by
  rintro hb1 hp1 _ _ Q E s h3 h4 k
  obtain ⟨a, rfl, ha⟩ := vl_ints.mp h3
  obtain ⟨b, rfl, hb⟩ := vl_ints.mp h4
  exact ⟨_, _, lst_of (s _ _ ha), lst_of (s _ _ hb), k _ _ _ (.refl s) rfl⟩)
theorem z_neL (h1 : Z p (VL VI) l lo hb) (h2 : Z q (VL VI) m lo hb) : Z (pBin opNe p q) VB (!decide (l = m)) lo hb := z_bin h1 h2 (by
  rintro hb1 hp1 _ _ Q E s h3 h4 k
  obtain ⟨a, rfl, ha⟩ := vl_ints.mp h3
  obtain ⟨b, rfl, hb⟩ := vl_ints.mp h4
  exact ⟨_, _, lst_of (s _ _ ha), lst_of (s _ _ hb), k _ _ _ (.refl s) rfl⟩)
theorem any_mem : (l.any (· == x)) = decide (x ∈ l) := by
  rw [Bool.eq_iff_iff, List.any_eq_true, decide_eq_true_eq]
  exact ⟨fun ⟨y, h, e⟩ => eq_of_beq e ▸ h, fun h => ⟨x, h, beq_self_eq_true x⟩⟩
theorem z_notIn (h1 : Z p VI x lo hb) (h2 : Z q (VL VI) l lo hb) : Z (pBin opNotIn p q) VB (!decide (x ∈ l)) lo hb := z_bin h1 h2 (by
  rintro hb1 hp1 _ _ Q E s rfl h4 k
  obtain ⟨b, rfl, hb⟩ := vl_ints.mp h4
  exact .inl ⟨_, lst_of (s _ _ hb), k _ _ _ (.refl s) (congrArg (fun b => AV.bool (!b)) any_mem)⟩)
theorem z_item {xs : List α} {x : α} (h1 : Z p (VL R) xs lo hb) (h2 : Z q VI y lo hb) (h0 : 0 ≤ y) (hx : xs[y.toNat]? = some x) : Z (pBin opItem p q) R x lo hb := z_bin h1 h2 (by
  rintro hb1 hp1 _ _ Q E s ⟨a, vs, rfl, ha, h3⟩ rfl k
  obtain ⟨v, hv, hr⟩ := h3.get hx
  exact ⟨v, item_list (s _ _ ha) h0 hv, k _ _ _ (.refl s) hr⟩)
theorem zt_bool (h : Z p VB c lo hb) : ZT (tOf p) c lo hb := fun hp s Q E k => h hp s _ _ fun hb2 hp2 v g hv => by cases hv; exact k _ _ g
theorem zt_int (h : Z p VI x lo hb) : ZT (tOf p) (!decide (x = 0)) lo hb := fun hp s Q E k => h hp s _ _ fun hb2 hp2 v g hv => by cases hv; exact k _ _ g
theorem zt_and (h : ZT t c lo hb) (h' : c = true → ZT t' c' lo hb) : ZT (tAnd t t') (c && c') lo hb := fun hp s Q E k => h hp s _ _ fun hb2 hp2 g => by
  cases c with
  | false => exact k _ _ g
  | true => exact ((h' rfl).ext g.b) hp2 g.s _ _ fun hb3 hp3 g3 => k _ _ (g.trans g3)
theorem zt_or (h : ZT t c lo hb) (h' : c = false → ZT t' c' lo hb) : ZT (tOr t t') (c || c') lo hb := fun hp s Q E k => h hp s _ _ fun hb2 hp2 g => by
  cases c with
  | true => exact k _ _ g
  | false => exact ((h' rfl).ext g.b) hp2 g.s _ _ fun hb3 hp3 g3 => k _ _ (g.trans g3)
theorem z_cast {x y : α} (h : Z p R x lo hb) (e : x = y) : Z p R y lo hb := e ▸ h
theorem zt_cast (h : ZT t c lo hb) (e : c = c') : ZT t c' lo hb := e ▸ h
/-- the items of a list's display -/
theorem zi_nil : ZI lNil R [] lo hb := fun hp s Q E k => k _ _ _ (.refl s) trivial
theorem zi_cons {q : LP} {x : α} {xs : List α} (h1 : Z p R x lo hb) (h2 : ZI q R xs lo hb) : ZI (lCons p q) R (x :: xs) lo hb := fun hp s Q E k =>
  h1 hp s _ _ fun hb2 hp2 v g hv => (h2.ext g.b) hp2 g.s _ _ fun hb3 hp3 vs g3 hvs => k _ _ _ (g.trans g3) ⟨R.m g3.b hv, hvs⟩
theorem z_list {q : LP} {xs : List α} (h : ZI q R xs lo hb) (hz : xs.length ≤ 1000000) : Z (pList q) (VL R) xs lo hb := fun hp s Q E k =>
  h hp s _ _ fun hb2 hp2 vs g hvs => ⟨by rw [hvs.len]; exact hz, fun a za => by
    have g2 := Gr.new g.s (.list vs) za
    exact k _ _ _ (g.trans g2) ⟨a, vs, rfl, upd_self .., hvs.ext g2.b⟩⟩
theorem z_pair {x : α} {y : β} (h1 : Z p R x lo hb) (h2 : Z q S y lo hb) : Z (pTuple (lCons p (lCons q lNil))) (VP R S) (x, y) lo hb := fun hp s Q E k =>
  h1 hp s _ _ fun hb2 hp2 u g hu => (h2.ext g.b) hp2 g.s _ _ fun hb3 hp3 w g3 hw => ⟨by show 2 ≤ 1000000; (first | lia | omega), fun a za => by
    have g4 := Gr.new g3.s (.tup [u, w]) za
    exact k _ _ _ (g.trans (g3.trans g4)) ⟨a, u, w, rfl, upd_self .., R.m (g3.b.trans g4.b) hu, S.m g4.b hw⟩⟩
theorem z_len {xs : List α} (h : Z p (VL R) xs lo hb) : Z (pBi opLen (lCons p lNil)) VI xs.length lo hb := fun hp s Q E k =>
  h hp s _ _ fun hb2 hp2 u g hu => by obtain ⟨a, vs, rfl, ha, hr⟩ := hu; exact .inl ⟨vs, lst_of (g.s _ _ ha), k _ _ _ g (by rw [hr.len]; rfl)⟩
theorem z_sorted (h : Z p (VL VI) l lo hb) (hl : l.length < 64) (hp' : m.Perm l) (hs : m.Pairwise (· ≤ ·)) : Z (pBi opSorted (lCons p lNil)) (VL VI) m lo hb := fun hp s Q E k =>
  h hp s _ _ fun hb2 hp2 u g hu => by
    obtain ⟨a, rfl, ha⟩ := vl_ints.mp hu
    refine ⟨l, .inl (lst_of (g.s _ _ ha)), hl, fun b ns' zb hp3 hs' => ?_⟩
    rw [sorted_eq (hp3.trans hp'.symm) hs' hs]
    exact k _ _ _ (g.trans (Gr.new g.s _ zb)) (vl_ints.mpr ⟨b, rfl, upd_self ..⟩)
theorem zs_list {xs : List α} (h : Z p (VL R) xs lo hb) : ZS (iSeq p) R xs lo hb := fun hp s Q E k =>
  h hp s _ _ fun hb2 hp2 v g hv => by
    obtain ⟨a, vs, rfl, ha, hr⟩ := hv
    exact ⟨a, rfl, .inl ⟨_, lst_of (g.s _ _ ha), k _ _ _ _ g hr fun σ eσ => lst_of (eσ _ _ ha)⟩⟩
theorem zs_range (h : Z p VI n lo hb) (hn : n ≤ 1000000) : ZS (iRange (lCons p lNil)) VI (keysN n) lo hb := fun hp s Q E k =>
  h hp s _ _ fun hb2 hp2 v g hv => by cases hv; exact ⟨_, rangeOf_n hn, k _ _ _ _ g (All2.ints.mpr rfl) fun _ _ => trivial⟩
end
end
section
section
variable {α β γ : Type} {p q : EP} {t : TP} {R : VR α} {S : VR β} {lo : Loc} {hb hp : AH} {i j n : Nat} {a : Addr} {v : AV} {c : Bool} {C : CP} {L : Loc → Prop} {tgt : AV → SP} {src : IP} {mm : List (Option Nat)} {Q : Fl → St → Prop} {E : Ex → St → Prop}
theorem zc_emit {y : β} (h : Z p S y lo hb) (hL : L lo) : ZC (cEmit p) S [y] L lo hb := fun hp s acc Q hz k =>
  h hp s _ _ fun hb2 hp2 v g hv => ⟨Nat.lt_of_succ_lt hz, k lo _ hp2 [v] hL g ⟨hv, trivial⟩⟩
theorem ZC.ext {ys : List β} {hb2 : AH} (h : ZC C S ys L lo hb) (e : Ext hb hb2) : ZC C S ys L lo hb2 := fun hp s acc Q hz k => h hp (e.trans s) acc Q hz fun lo2 hb' hp' vs hL g hv => by
  obtain ⟨g2, e2⟩ := g.more e s
  exact k lo2 _ _ vs hL g2 (hv.ext e2)
theorem zc_test {ys : List β} (ht : ZT t c lo hb) (h : c = true → ZC C S ys L lo hb) (hL : L lo) : ZC (cTest (some t) C) S (if c then ys else []) L lo hb := fun hp s acc Q hz k =>
  ht hp s _ _ fun hb2 hp2 g => by
    cases c with
    | true => exact ((h rfl).ext g.b) hp2 g.s acc Q hz fun lo2 hb3 hp3 vs h1 g3 h2 => k lo2 _ hp3 vs h1 (g.trans g3) h2
    | false => have := k lo _ hp2 [] hL g trivial; rw [List.append_nil] at this; exact this
/-- a turn, its target first -/
noncomputable def ZK (tgt : AV → SP) (C : CP) (S : VR β) (ys : List β) (L : Loc → Prop) (v : AV) (lo : Loc) (hb : AH) : Prop := ∀ hp, Ext hb hp → ∀ (acc : List AV) (Q : List AV → St → Prop), acc.length + ys.length < 1000000 → (∀ lo2 hb' hp' vs, L lo2 → Gr hb hp hb' hp' → All2 S ys vs hb' → Q (acc ++ vs) ⟨lo2, hp'⟩) → tgt v (fun _ σ₂ => C Q acc σ₂) noX ⟨lo, hp⟩
theorem zk_name {ys : List β} (h : ZC C S ys L (setv lo i v) hb) : ZK (aName i) C S ys L v lo hb := h
theorem zk_pair {ys : List β} {u w : AV} (ha : hb a = some (.tup [u, w])) (h : ZC C S ys L (setvs lo [i, j] [u, w]) hb) : ZK (aTuple [i, j]) C S ys L (.ref a) lo hb := fun hp s acc Q hz k => ⟨_, s _ _ ha, rfl, h hp s acc Q hz k⟩
theorem take_flat {xs : List α} {f : α → List β} {x : α} (h : xs[i]? = some x) : (xs.take (i + 1)).flatMap f = (xs.take i).flatMap f ++ f x := by
  rw [List.take_add_one, h, List.flatMap_append]; simp
theorem take_flat_le (xs : List α) (f : α → List β) (i : Nat) : ((xs.take i).flatMap f).length ≤ (xs.flatMap f).length := by
  have h := congrArg (fun l => (l.flatMap f).length) (List.take_append_drop i xs)
  simp only [List.flatMap_append, List.length_append] at h
  (first | lia | omega)
theorem zc_loop {vs : List AV} {xs : List α} {guard : St → Prop} {f : α → List β} (hx : All2 R xs vs hb) (hg : ∀ σ : St, Ext hb σ.hp → guard σ) (hL : L lo)
    (hs : ∀ x ∈ xs, ∀ v hb1 lo', L lo' → Ext hb hb1 → R.r x v hb1 → ZK tgt C S (f x) L v lo' hb1) : ZC (cLoop vs guard tgt C) S (xs.flatMap f) L lo hb := fun hp s acc Q hz k => by
  refine ⟨fun i acc' σ => i ≤ xs.length ∧ L σ.loc ∧ ∃ hb1 ws, Gr hb hp hb1 σ.hp ∧ acc' = acc ++ ws ∧ All2 S ((xs.take i).flatMap f) ws hb1, ⟨Nat.zero_le _, hL, hb, [], .refl s, (List.append_nil _).symm, trivial⟩, ?_⟩
  rintro i acc' ⟨lo', hp2⟩ ⟨hi, hl, hb1, ws, g, rfl, hw⟩
  refine ⟨hg _ (g.b.trans g.s), ?_⟩
  cases hv : vs[i]? with
  | none =>
    have h1 : vs.length ≤ i := List.getElem?_eq_none_iff.mp hv
    rw [hx.len] at h1
    rw [List.take_of_length_le h1] at hw
    exact k lo' hb1 hp2 ws hl g hw
  | some v =>
    obtain ⟨x, h1, h2⟩ := (hx.ext g.b).get' hv
    have h3 := take_flat (f := f) h1
    have h4 := take_flat_le xs f (i + 1)
    refine hs x (List.mem_of_getElem? h1) v hb1 lo' hl g.b h2 hp2 g.s _ _ ?_ fun lo2 hb3 hp3 us g1 g2 g3 => ⟨?_, g1, hb3, ws ++ us, g.trans g2, List.append_assoc .., ?_⟩
    · rw [h3, List.length_append] at h4
      rw [List.length_append, hw.len]; (first | lia | omega)
    · obtain ⟨q, _⟩ := List.getElem?_eq_some_iff.mp h1; exact q
    · rw [h3]; exact g3.append (hw.ext g2.b)
theorem z_comp {xs : List α} {f : α → List β} (Z : ZS src R xs lo hb) (L : Loc → Prop) (hL : L (capLoc mm lo)) (hz : (xs.flatMap f).length < 1000000) (hs : ∀ x ∈ xs, ∀ v hb1 lo', L lo' → Ext hb hb1 → R.r x v hb1 → ZK tgt C S (f x) L v lo' hb1) : Mine.Z (pComp mm src tgt C) (VL S) (xs.flatMap f) lo hb := fun hp s Q E k =>
  Z hp s _ _ fun hb2 hp2 vs guard g hx hg => zc_loop hx hg hL (fun x h v hb3 lo' hl e3 hr => hs x h v hb3 lo' hl (g.b.trans e3) hr) hp2 g.s [] _ (by rw [List.length_nil, Nat.zero_add]; exact hz) fun lo2 hb3 hp3 ws h1 g3 h2 a za => by
    have g4 := Gr.new g3.s (.list ([] ++ ws)) za
    exact k _ _ _ (g.trans (g3.trans g4)) ⟨a, _, rfl, upd_self .., h2.ext g4.b⟩
theorem flat_one (xs : List α) (f : α → β) : (xs.flatMap fun x => [f x]) = xs.map f := by
  induction xs with
  | nil => rfl
  | cons a l ih => rw [List.flatMap_cons, ih]; rfl
theorem flat_if (xs : List α) (b : α → Bool) (f : α → β) : (xs.flatMap fun x => if b x then [f x] else []) = (xs.filter b).map f := by
  induction xs with
  | nil => rfl
  | cons a l ih =>
    rw [List.flatMap_cons, ih, List.filter_cons]
    cases b a <;> rfl
theorem setv_twice (lo : Loc) (i : Nat) (v w : AV) : setv (setv lo i v) i w = setv lo i w := by
  funext j; unfold setv; split <;> rfl
theorem setvs_twice (lo : Loc) (u w u' w' : AV) : setvs (setvs lo [0, 1] [u, w]) [0, 1] [u', w'] = setvs lo [0, 1] [u', w'] := by
  funext j; show setv (setv (setv (setv _ 0 _) 1 _) 0 _) 1 _ j = setv (setv _ 0 _) 1 _ j
  unfold setv; split
  · rfl
  · split <;> rfl
/-- one name -/
theorem z_compN {xs : List α} {f : α → β} (Z : ZS src R xs lo hb) (hz : xs.length < 1000000) (h : ∀ x ∈ xs, ∀ v hb1, Ext hb hb1 → R.r x v hb1 → Mine.Z p S (f x) (setv (capLoc mm lo) 0 v) hb1) : Mine.Z (pComp mm src (aName 0) (cTest none (cEmit p))) (VL S) (xs.map f) lo hb := by
  rw [← flat_one]
  refine z_comp Z (fun lo' => ∀ v, setv lo' 0 v = setv (capLoc mm lo) 0 v) (fun _ => rfl) (by rw [flat_one, List.length_map]; exact hz) fun x hx v hb1 lo' hl e hr => zk_name ?_
  rw [hl]
  exact zc_emit (h x hx v hb1 e hr) fun w => setv_twice ..
theorem z_compF {xs : List α} {f : α → β} {b : α → Bool} (Z : ZS src R xs lo hb) (hz : xs.length < 1000000) (ht : ∀ x ∈ xs, ∀ v hb1, Ext hb hb1 → R.r x v hb1 → ZT t (b x) (setv (capLoc mm lo) 0 v) hb1)
    (h : ∀ x ∈ xs, b x = true → ∀ v hb1, Ext hb hb1 → R.r x v hb1 → Mine.Z p S (f x) (setv (capLoc mm lo) 0 v) hb1) : Mine.Z (pComp mm src (aName 0) (cTest (some t) (cEmit p))) (VL S) ((xs.filter b).map f) lo hb := by
  rw [← flat_if]
  refine z_comp Z (fun lo' => ∀ v, setv lo' 0 v = setv (capLoc mm lo) 0 v) (fun _ => rfl) (by rw [flat_if, List.length_map]; exact Nat.lt_of_le_of_lt (List.length_filter_le ..) hz) fun x hx v hb1 lo' hl e hr => zk_name ?_
  rw [hl]
  exact zc_test (ht x hx v hb1 e hr) (fun hbx => zc_emit (h x hx hbx v hb1 e hr) fun w => setv_twice ..) fun w => setv_twice ..
theorem z_compPF {R' : VR γ} {xs : List (α × γ)} {f : α × γ → β} {b : α × γ → Bool} (Z : ZS src (VP R R') xs lo hb) (hz : xs.length < 1000000) (ht : ∀ x ∈ xs, ∀ u w hb1, Ext hb hb1 → R.r x.1 u hb1 → R'.r x.2 w hb1 → ZT t (b x) (setvs (capLoc mm lo) [0, 1] [u, w]) hb1)
    (h : ∀ x ∈ xs, b x = true → ∀ u w hb1, Ext hb hb1 → R.r x.1 u hb1 → R'.r x.2 w hb1 → Mine.Z p S (f x) (setvs (capLoc mm lo) [0, 1] [u, w]) hb1) : Mine.Z (pComp mm src (aTuple [0, 1]) (cTest (some t) (cEmit p))) (VL S) ((xs.filter b).map f) lo hb := by
  rw [← flat_if]
  refine z_comp Z (fun lo' => ∀ u w, setvs lo' [0, 1] [u, w] = setvs (capLoc mm lo) [0, 1] [u, w]) (fun _ _ => rfl) (by rw [flat_if, List.length_map]; exact Nat.lt_of_le_of_lt (List.length_filter_le ..) hz) fun x hx v hb1 lo' hl e hr => ?_
  obtain ⟨a, u, w, rfl, ha, h1, h2⟩ := hr
  refine zk_pair ha ?_
  rw [hl]
  exact zc_test (ht x hx u w hb1 e h1 h2) (fun hbx => zc_emit (h x hx hbx u w hb1 e h1 h2) fun _ _ => setvs_twice ..) fun _ _ => setvs_twice ..
-- statements
theorem s_set {x : α} {rest : SP} (h : Z p R x lo hb) (s : Ext hb hp) (k : ∀ hb' hp' v, Gr hb hp hb' hp' → R.r x v hb' → rest Q E ⟨setv lo i v, hp'⟩) : (sSeq (sAssign p (aName i)) rest) Q E ⟨lo, hp⟩ := h hp s _ _ k
theorem s_ret {x : α} (h : Z p R x lo hb) (s : Ext hb hp) (k : ∀ hb' hp' v, Gr hb hp hb' hp' → R.r x v hb' → Q (.ret v) ⟨lo, hp'⟩) : (sRet p) Q E ⟨lo, hp⟩ := h hp s _ _ k
theorem s_if {A B : SP} (h : ZT t c lo hb) (s : Ext hb hp) (h1 : c = true → ∀ hb' hp', Gr hb hp hb' hp' → A Q E ⟨lo, hp'⟩) (h2 : c = false → ∀ hb' hp', Gr hb hp hb' hp' → B Q E ⟨lo, hp'⟩) : (sIf t A B) Q E ⟨lo, hp⟩ := h hp s _ _ fun hb2 hp2 g => by
  cases c with
  | true => exact h1 rfl _ _ g
  | false => exact h2 rfl _ _ g
theorem s_pair {x : α} {y : β} {rest : SP} (h1 : Z p R x lo hb) (h2 : Z q S y lo hb) (s : Ext hb hp) (k : ∀ hb' hp' u w, Gr hb hp hb' hp' → R.r x u hb' → S.r y w hb' → rest Q E ⟨setvs lo [i, j] [u, w], hp'⟩) : (sSeq (sPair (lCons p (lCons q lNil)) [i, j]) rest) Q E ⟨lo, hp⟩ :=
  h1 hp s _ _ fun hb2 hp2 u g2 hu => (h2.ext g2.b) hp2 g2.s _ _ fun hb3 hp3 w g3 hw => ⟨rfl, fun a za => by
    have g4 := Gr.new g3.s (.tup [u, w]) za
    exact k _ _ u w (g2.trans (g3.trans g4)) (R.m (g3.b.trans g4.b) hu) (S.m g4.b hw)⟩
theorem s_next {A B : SP} (h : A (fun fl σ => match fl with | .next => B Q E σ | fl => Q fl σ) E ⟨lo, hp⟩) : (sSeq A B) Q E ⟨lo, hp⟩ := h
noncomputable def loopK (J : Loc → AH → Prop) (Q : Fl → St → Prop) : Fl → St → Prop := fun fl σ => match fl with
  | .next => J σ.loc σ.hp
  | .cont => J σ.loc σ.hp
  | .brk => Q .next σ
  | .ret v => Q (.ret v) σ
theorem s_for {xs : List α} {body : SP} (Z : ZS src R xs lo hb) (s : Ext hb hp) (k : ∀ hb' hp', Gr hb hp hb' hp' → ∃ J : Nat → Loc → AH → Prop, J 0 lo hp' ∧ (∀ i lo2 hp2, J i lo2 hp2 → Ext hb' hp2) ∧
      (∀ i x v lo2 hp2, xs[i]? = some x → R.r x v hb' → J i lo2 hp2 → tgt v (fun _ σ₂ => body (loopK (J (i + 1)) Q) E σ₂) E ⟨lo2, hp2⟩) ∧ (∀ lo2 hp2, J xs.length lo2 hp2 → Q .next ⟨lo2, hp2⟩)) : (sFor src tgt body) Q E ⟨lo, hp⟩ := by
  refine Z hp s _ _ fun hb2 hp2 vs guard g hx hg => ?_
  obtain ⟨J, h0, hJ, hs, hq⟩ := k hb2 hp2 g
  refine ⟨fun i σ => i ≤ xs.length ∧ J i σ.loc σ.hp, ⟨Nat.zero_le _, h0⟩, ?_⟩
  rintro i ⟨lo', hp3⟩ ⟨hi, hj⟩
  refine ⟨hg _ (hJ _ _ _ hj), ?_⟩
  cases hv : vs[i]? with
  | none =>
    have h1 : vs.length ≤ i := List.getElem?_eq_none_iff.mp hv
    rw [hx.len] at h1
    cases Nat.le_antisymm hi h1
    exact hq lo' hp3 hj
  | some v =>
    obtain ⟨x, h1, h2⟩ := hx.get' hv
    obtain ⟨q, _⟩ := List.getElem?_eq_some_iff.mp h1
    have e : (fun (fl : Fl) (σ₃ : St) => (match fl with | .next => i + 1 ≤ xs.length ∧ J (i + 1) σ₃.loc σ₃.hp | .cont => i + 1 ≤ xs.length ∧ J (i + 1) σ₃.loc σ₃.hp | .brk => Q .next σ₃ | .ret v => Q (.ret v) σ₃ : Prop)) = loopK (J (i + 1)) Q := by
      funext fl σ₃
      cases fl with
      | next => exact propext ⟨fun h => h.2, fun h => ⟨q, h⟩⟩
      | cont => exact propext ⟨fun h => h.2, fun h => ⟨q, h⟩⟩
      | brk => rfl
      | ret v => rfl
    have h3 := hs i x v lo' hp3 h1 h2 hj
    rw [← e] at h3
    exact h3
end
end
section
section
variable {α β γ : Type} {p q : EP} {t : TP} {R : VR α} {S : VR β} {lo : Loc} {hb hp hb' hp' : AH} {i j n : Nat} {a l : Addr} {v : AV} {c : Bool} {Q : Fl → St → Prop} {E : Ex → St → Prop} {o : AObj} {vs : List AV} {x y : Int}
/-- an object that is not known stays so -/
theorem Gr.keep (g : Gr hb hp hb' hp') (h : hp a = some o) (hn : hb a = none) : hp' a = some o ∧ hb' a = none := ⟨g.e _ _ h, g.n a hn (by rw [h]; nofun)⟩
/-- a new object is changed; it is known from now on -/
theorem Gr.mut {h0 h1 : AH} (g : Gr h0 h1 hb hp) (h : h1 a = none) (hn : hb a = none) : Gr h0 h1 hb (upd hp a o) := ⟨g.b, g.e.into h, g.s.into hn, g.n⟩
theorem Gr.know {h0 h1 : AH} (g : Gr h0 h1 hb hp) (s : Ext h0 h1) (h : h1 a = none) (ho : hp a = some o) : Gr h0 h1 (upd hb a o) hp where
  b := fun c o' e => by rw [upd_ne (ne_of e (s.none h))]; exact g.b _ _ e
  e := g.e
  s := fun c o' e => by
    by_cases q : c = a
    · rw [q, upd_self] at e; rw [q, ho]; exact e
    · rw [upd_ne q] at e; exact g.s _ _ e
  n := fun c h1 h2 => by
    have q : c ≠ a := fun q => h2 (by rw [q]; exact h)
    rw [upd_ne q]; exact g.n c h1 h2
theorem ext_mut (s : Ext hb hp) (hn : hb a = none) : Ext hb (upd hp a o) := s.into hn
/-- a new list, to be changed later -/
theorem s_new {r : LP} {xs : List α} {rest : SP} (h : ZI r R xs lo hb) (s : Ext hb hp) (hz : xs.length ≤ 1000000) (k : ∀ hb' hp' a vs, Gr hb hp hb' hp' → hp' a = none → All2 R xs vs hb' → rest Q E ⟨setv lo i (.ref a), upd hp' a (.list vs)⟩) : (sSeq (sAssign (pList r) (aName i)) rest) Q E ⟨lo, hp⟩ :=
  h hp s _ _ fun hb2 hp2 vs g hv => ⟨by rw [hv.len]; exact hz, fun a za => k _ hp2 a vs g za hv⟩
theorem s_append {x : α} (hi : lo i = some (.ref l)) (hl : hp l = some (.list vs)) (hz : vs.length < 1000000) (h : Z p R x lo hb) (s : Ext hb hp) (k : ∀ hb' hp' v, Gr hb hp hb' hp' → R.r x v hb' → Q .next ⟨lo, upd hp' l (.list (vs ++ [v]))⟩) : (sExpr (pBm "list" opAppend (pName i) (lCons p lNil))) Q E ⟨lo, hp⟩ :=
  ⟨_, hi, ⟨l, _, rfl, hl, rfl⟩, h hp s _ _ fun hb2 hp2 v g hv => ⟨_, g.e _ _ hl, hz, k _ hp2 v g hv⟩⟩
/-- l[k] = v -/
theorem s_item {q : EP} {x : α} (hi : lo i = some (.ref l)) (hl : hp l = some (.list vs)) (h : Z p R x lo hb) (hq : Z q VI y lo hb) (s : Ext hb hp) (h0 : 0 ≤ y) (h1 : y < vs.length) (k : ∀ hb' hp' v, Gr hb hp hb' hp' → R.r x v hb' → Q .next ⟨lo, upd hp' l (.list (vs.set y.toNat v))⟩) : (sAssign p (aItem (pName i) q)) Q E ⟨lo, hp⟩ :=
  h hp s _ _ fun hb2 hp2 v g hv => ⟨_, hi, (hq.ext g.b) hp2 g.s _ _ fun hb3 hp3 w g3 hw => by
    cases hw
    exact .inl ⟨_, (g.e.trans g3.e) _ _ hl, h0, h1, k _ hp3 v (g.trans g3) (R.m g3.b hv)⟩⟩
theorem intsA_set (ns : List Int) (i : Nat) (x : Int) : intsA (ns.set i x) = (intsA ns).set i (.int x) := List.map_set ..
/-- l[k] += v, of ints -/
theorem s_augItem {q r : EP} {z : Int} {ns : List Int} (hi : lo i = some (.ref l)) (hl : hp l = some (.list (intsA ns))) (hq : Z q VI y lo hb) (s : Ext hb hp) (h0 : 0 ≤ y) (h1 : y < ns.length) (hr : Z r VI z lo hb) (k : ∀ hb' hp', Gr hb hp hb' hp' → Q .next ⟨lo, upd hp' l (.list (intsA (ns.set y.toNat (hgt ns y + z))))⟩) : (sAugItem iAdd (pName i) q r) Q E ⟨lo, hp⟩ :=
  ⟨_, hi, hq hp s _ _ fun hb2 hp2 w g hw => by
    cases hw
    refine ⟨_, item_ints (g.e _ _ hl) h0 h1, (hr.ext g.b) hp2 g.s _ _ fun hb3 hp3 u g3 hu => ?_⟩
    cases hu
    refine .inl ⟨_, (g.e.trans g3.e) _ _ hl, h0, by rw [List.length_map]; exact h1, ?_⟩
    have := k _ hp3 (g.trans g3)
    rw [intsA_set] at this
    exact this⟩
-- sorters
/-- what a sorter owns is new behind h0 and not known in hb -/
structure Bas (h0 hb hp : AH) (own : Addr → Prop) (x : Addr) : Prop where
  e0 : Ext h0 hp
  s : Ext hb hp
  o0 : ∀ a, own a → h0 a = none
  ob : ∀ a, own a → hb a = none
  x0 : h0 x = none
  xb : hb x = none
  xo : ¬ own x
variable {h0 h1 : AH} {X : Addr} {keys : List Int} {cnt : Int → Int} {succ : Int → List Int} {don out : Int → Bool} {Rs : List Int}
theorem Frm.base {own own' : Addr → Prop} (F : Frm hp own hp' own') (s : Ext hb hp) (h : ∀ a, own a → hb a = none) : Ext hb hp' ∧ ∀ a, own' a → hb a = none := by
  have h1 : ∀ a o, hb a = some o → hp' a = some o ∧ ¬ own' a := fun a o e => F a o (s _ _ e) fun q => by have := h a q; rw [e] at this; cases this
  refine ⟨fun a o e => (h1 a o e).1, fun a q => ?_⟩
  cases e : hb a with
  | none => rfl
  | some o => exact absurd q (h1 a o e).2
theorem Bas.frm {own own' : Addr → Prop} (B : Bas h0 hb hp own X) (F : Frm hp own hp' own') (hx : hp X = some o) : Bas h0 hb hp' own' X :=
  ⟨(F.base B.e0 B.o0).1, (F.base B.s B.ob).1, (F.base B.e0 B.o0).2, (F.base B.s B.ob).2, B.x0, B.xb, (F _ _ hx B.xo).2⟩
theorem Bas.gr {own : Addr → Prop} (B : Bas h0 hb hp own X) (g : Gr hb hp hb' hp') (al : ∀ a, own a → hp a ≠ none) (hx : hp X = some o) : Bas h0 hb' hp' own X :=
  ⟨B.e0.trans g.e, g.s, B.o0, fun a ha => g.n a (B.ob a ha) (al a ha), B.x0, g.n _ B.xb (by rw [hx]; nofun), B.xo⟩
theorem Bas.less {own : Addr → Prop} (B : Bas h0 hb hp own X) (e : Ext h1 h0) (e' : Ext hb' hb) : Bas h1 hb' hp own X :=
  ⟨e.trans B.e0, e'.trans B.s, fun a ha => e.none (B.o0 a ha), fun a ha => e'.none (B.ob a ha), e.none B.x0, e'.none B.xb, B.xo⟩
/-- a sorter that is being told -/
noncomputable def Bld (h0 hb hp : AH) (x : Addr) (keys : List Int) (cnt : Int → Int) (succ : Int → List Int) : Prop := ∃ own d n2i rec suc, Srt hp own x d n2i rec suc keys cnt succ .none 0 0 ∧ Bas h0 hb hp own x
/-- a sorter behind prepare -/
noncomputable def Rn (h0 hb hp : AH) (x : Addr) (keys : List Int) (succ : Int → List Int) (don out : Int → Bool) (Rs : List Int) : Prop := ∃ own d n2i rec suc rl, Run hp own x d n2i rec suc keys succ don out rl Rs ∧ Bas h0 hb hp own x
theorem Bld.gr (B : Bld h0 hb hp X keys cnt succ) (g : Gr hb hp hb' hp') : Bld h0 hb' hp' X keys cnt succ := by
  obtain ⟨own, d, n2i, rec, suc, S, b⟩ := B
  exact ⟨own, d, n2i, rec, suc, S.ext g.e, b.gr g S.al S.hx⟩
theorem Rn.gr (B : Rn h0 hb hp X keys succ don out Rs) (g : Gr hb hp hb' hp') : Rn h0 hb' hp' X keys succ don out Rs := by
  obtain ⟨own, d, n2i, rec, suc, rl, r, b⟩ := B
  exact ⟨own, d, n2i, rec, suc, rl, r.ext g.e, b.gr g r.S.al r.S.hx⟩
theorem Bld.less (B : Bld h0 hb hp X keys cnt succ) (e : Ext h1 h0) (e' : Ext hb' hb) : Bld h1 hb' hp X keys cnt succ := by
  obtain ⟨own, d, n2i, rec, suc, S, b⟩ := B
  exact ⟨own, d, n2i, rec, suc, S, b.less e e'⟩
theorem Bld.s (B : Bld h0 hb hp X keys cnt succ) : Ext hb hp := by obtain ⟨own, d, n2i, rec, suc, S, b⟩ := B; exact b.s
theorem Rn.s (B : Rn h0 hb hp X keys succ don out Rs) : Ext hb hp := by obtain ⟨own, d, n2i, rec, suc, rl, r, b⟩ := B; exact b.s
theorem Rn.e0 (B : Rn h0 hb hp X keys succ don out Rs) : Ext h0 hp := by obtain ⟨own, d, n2i, rec, suc, rl, r, b⟩ := B; exact b.e0
theorem Bld.inst {lo : Loc} (B : Bld h0 hb hp X keys cnt succ) : isInst ⟨lo, hp⟩ (.ref X) X := by
  obtain ⟨own, d, n2i, rec, suc, S, b⟩ := B
  exact ⟨rfl, d, S.hx, isSd_of S.hd⟩
theorem Rn.inst {lo : Loc} (B : Rn h0 hb hp X keys succ don out Rs) : isInst ⟨lo, hp⟩ (.ref X) X := by
  obtain ⟨own, d, n2i, rec, suc, rl, r, b⟩ := B
  exact ⟨rfl, d, r.S.hx, isSd_of r.S.hd⟩
theorem b_new {Q : AV → St → Prop} {E : Ex → St → Prop} (s : Ext hb hp) (e : Ext h0 hp) (k : ∀ hp' x, Bld h0 hb hp' x [] (fun _ => 0) (fun _ => []) → Ext hp hp' → Q (.ref x) ⟨lo, hp'⟩) : (pNewS fp_sorter lNil) Q E ⟨lo, hp⟩ := by
  intro x d hx hd hxd
  exact sorter_spec hx hd hxd fun hp1 own n2i rec suc ex hown nx S => ⟨rfl, k hp1 x ⟨own, d, n2i, rec, suc, S, e.trans ex, s.trans ex, fun a ha => e.none (hown a ha), fun a ha => s.none (hown a ha), e.none hx, s.none hx, nx⟩ ex⟩
theorem b_add {Q : AV → AH → Prop} {E : Ex → AH → Prop} {k : Int} {ps : List Int} (B : Bld h0 hb hp X keys cnt succ) (hz : keys.length + ps.length < 999990) (hz2 : ∀ p, (succ p).length + ps.length < 1000000)
    (h : ∀ hp', Bld h0 hb hp' X (addKeys (insK keys k) ps) (setI cnt k (cnt k + ps.length)) (addSucc succ ps k) → Q .none hp') : fp_add (.ref X :: .int k :: intsA ps) Q E hp := by
  obtain ⟨own, d, n2i, rec, suc, S, b⟩ := B
  exact add_spec S hz hz2 fun hp2 own2 rec2 suc2 S2 F => h hp2 ⟨own2, d, n2i, rec2, suc2, S2, b.frm F S.hx⟩
theorem b_prep {Q : AV → AH → Prop} {E : Ex → AH → Prop} (B : Bld h0 hb hp X keys cnt succ) (hc : ∀ k ∈ keys, cnt k = ind keys succ (fun _ => false) k) (hsub : ∀ v ∈ keys, ∀ w ∈ succ v, w ∈ keys) (hz : keys.length < 1000)
    (k0 : ∀ hp' Rs, Rn h0 hb hp' X keys succ (fun _ => false) (fun _ => false) Rs → (∃ r : Int → Nat, ∀ v ∈ keys, ∀ w ∈ succ v, r w < r v) → Q .none hp')
    (k1 : ∀ hp' Rs, Rn h0 hb hp' X keys succ (fun _ => false) (fun _ => false) Rs → (∃ k ∈ keys, TC succ k k) → E .cycle hp') : fp_prepare [.ref X] Q E hp := by
  obtain ⟨own, d, n2i, rec, suc, S, b⟩ := B
  exact prep_spec S hc hsub hz (fun hp2 own2 rl R r F hr => k0 hp2 R ⟨own2, d, n2i, rec, suc, rl, r, b.frm F S.hx⟩ hr) fun hp2 own2 rl R r F hr => k1 hp2 R ⟨own2, d, n2i, rec, suc, rl, r, b.frm F S.hx⟩ hr
theorem r_ready {Q : AV → AH → Prop} {E : Ex → AH → Prop} (B : Rn h0 hb hp X keys succ don out Rs)
    (k : ∀ hp' t, hp t = none → Rn h0 (upd hb t (.tup (intsA Rs))) hp' X keys succ don (fun k => out k || decide (k ∈ Rs)) [] → Q (.ref t) hp') : fp_get_ready [.ref X] Q E hp := by
  obtain ⟨own, d, n2i, rec, suc, rl, r, b⟩ := B
  refine ready_spec r fun hp2 t r2 F ht ht2 => k hp2 t ht ?_
  have b2 := b.frm F r.S.hx
  have nt : ¬ own t := fun q => r.S.al t q ht
  refine ⟨own, d, n2i, rec, suc, rl, r2, { b2 with s := fun a o e => ?_, ob := fun a ha => ?_, xb := ?_ }⟩
  · by_cases q : a = t
    · rw [q, upd_self] at e; rw [q, ht2]; exact e
    · rw [upd_ne q] at e; exact b2.s _ _ e
  · have q : a ≠ t := fun q => nt (by rw [← q]; exact ha)
    rw [upd_ne q]; exact b.ob a ha
  · have q : X ≠ t := fun q => by have := r.S.hx; rw [q, ht] at this; cases this
    rw [upd_ne q]; exact b.xb
theorem r_done {Q : AV → AH → Prop} {E : Ex → AH → Prop} {vs : List Int} (B : Rn h0 hb hp X keys succ don out Rs) (hnd : vs.Nodup) (ho : ∀ v ∈ vs, out v = true)
    (k : ∀ hp' N, Rn h0 hb hp' X keys succ (addB don vs) (subB out vs) (Rs ++ N) → Q .none hp') : fp_done (.ref X :: intsA vs) Q E hp := by
  obtain ⟨own, d, n2i, rec, suc, rl, r, b⟩ := B
  exact done_spec r hnd ho fun hp2 N r2 F => k hp2 N ⟨own, d, n2i, rec, suc, rl, r2, b.frm F r.S.hx⟩
theorem Rn.mem (B : Rn h0 hb hp X keys succ don out Rs) {k : Int} : k ∈ Rs ↔ k ∈ keys ∧ don k = false ∧ out k = false ∧ ∀ v ∈ keys, k ∈ succ v → don v = true := by
  obtain ⟨own, d, n2i, rec, suc, rl, r, b⟩ := B
  exact r.pred
theorem Rn.nodup (B : Rn h0 hb hp X keys succ don out Rs) : Rs.Nodup := by
  obtain ⟨own, d, n2i, rec, suc, rl, r, b⟩ := B
  exact r.nd
theorem Rn.isOut (B : Rn h0 hb hp X keys succ don out Rs) {k : Int} (h : out k = true) : k ∈ keys ∧ don k = false ∧ ∀ v ∈ keys, k ∈ succ v → don v = true := by
  obtain ⟨own, d, n2i, rec, suc, rl, r, b⟩ := B
  obtain ⟨h1, h2, h3⟩ := r.ko k h
  exact ⟨h1, h2, ind_zero.mp h3⟩
theorem Rn.isDon (B : Rn h0 hb hp X keys succ don out Rs) {k : Int} (h : don k = true) : k ∈ keys ∧ ∀ v ∈ keys, k ∈ succ v → don v = true := by
  obtain ⟨own, d, n2i, rec, suc, rl, r, b⟩ := B
  obtain ⟨h1, h2⟩ := r.kd k h
  exact ⟨h1, ind_zero.mp h2⟩
end
end
section
noncomputable def succS (st : List (Int × Int)) (k : Int) : List Int := (st.filter (·.1 == k)).map (·.2)
theorem mem_succS {st : List (Int × Int)} {v k : Int} : k ∈ succS st v ↔ (v, k) ∈ st := by
  unfold succS
  rw [List.mem_map]
  constructor
  · rintro ⟨⟨a, b⟩, h, rfl⟩
    obtain ⟨h1, h2⟩ := List.mem_filter.mp h
    rw [← eq_of_beq h2]; exact h1
  · intro h; exact ⟨(v, k), List.mem_filter.mpr ⟨h, beq_self_eq_true v⟩, rfl⟩
noncomputable def cntS (st : List (Int × Int)) (k : Int) : Int := ((st.filter (·.2 == k)).length : Int)
theorem cntS_snoc {st : List (Int × Int)} {p : Int × Int} : cntS (st ++ [p]) = setI (cntS st) p.2 (cntS st p.2 + 1) := by
  funext k
  unfold cntS setI
  rw [List.filter_append, List.length_append]
  by_cases q : k = p.2
  · rw [if_pos q, q]; simp
  · rw [if_neg q]; simp [Ne.symm q]
theorem succS_snoc {st : List (Int × Int)} {p : Int × Int} : succS (st ++ [p]) = addSucc (succS st) [p.1] p.2 := by
  funext k
  unfold succS addSucc
  rw [List.filter_append, List.map_append, List.count_singleton]
  by_cases q : p.1 = k
  · simp [q]
  · simp [q]
theorem insK_mem {keys : List Int} {k : Int} (h : k ∈ keys) : insK keys k = keys := if_pos h
theorem insK_new {keys : List Int} {k : Int} (h : k ∉ keys) : insK keys k = keys ++ [k] := if_neg h
theorem len_succS (st : List (Int × Int)) (k : Int) : (succS st k).length ≤ st.length := by
  unfold succS; rw [List.length_map]; exact List.length_filter_le ..
theorem sum_add (f g : Int → Nat) (l : List Int) : (l.map fun v => f v + g v).sum = (l.map f).sum + (l.map g).sum := by
  induction l with
  | nil => rfl
  | cons a l ih => simp only [List.map_cons, List.sum_cons, ih]; (first | lia | omega)
theorem sum_zero (l : List Int) : (l.map fun _ => 0).sum = 0 := by
  induction l with
  | nil => rfl
  | cons a l ih => simp only [List.map_cons, List.sum_cons, ih]
theorem sum_one {a : Int} (c : Nat) {l : List Int} (hn : l.Nodup) (ha : a ∈ l) : (l.map fun v => if v = a then c else 0).sum = c := by
  rw [sum_off hn ha, if_pos rfl]
  have : (l.map fun u => if u = a then 0 else if u = a then c else 0) = l.map fun _ => 0 := List.map_congr_left fun u _ => by split <;> rfl
  rw [this, sum_zero]; (first | lia | omega)
theorem cntS_ind {st : List (Int × Int)} {keys : List Int} (hn : keys.Nodup) (h : ∀ p ∈ st, p.1 ∈ keys) (k : Int) : cntS st k = ind keys (succS st) (fun _ => false) k := by
  have key : ∀ st : List (Int × Int), (∀ p ∈ st, p.1 ∈ keys) → (st.filter (·.2 == k)).length = (keys.map fun v => (succS st v).count k).sum := fun st => by
    induction st with
    | nil => intro _; exact (sum_zero keys).symm
    | cons p st ih =>
      intro h
      have h1 := ih fun q hq => h q (List.mem_cons_of_mem _ hq)
      have h2 : (keys.map fun v => (succS (p :: st) v).count k) = keys.map fun v => (if v = p.1 then (if p.2 = k then 1 else 0) else 0) + (succS st v).count k := List.map_congr_left fun v _ => by
        unfold succS
        rw [List.filter_cons]
        by_cases q : v = p.1
        · rw [if_pos (by simp [q]), if_pos q, List.map_cons, List.count_cons]
          simp only [beq_iff_eq]
          (first | lia | omega)
        · rw [if_neg (by simpa using Ne.symm q), if_neg q, Nat.zero_add]
      rw [h2, sum_add, sum_one _ hn (h p (List.mem_cons_self ..)), List.filter_cons, ← h1]
      by_cases q : p.2 = k
      · rw [if_pos (by simpa using q), if_pos q, List.length_cons]; (first | lia | omega)
      · rw [if_neg (by simpa using q), if_neg q]; (first | lia | omega)
  unfold cntS ind
  rw [key st h]
  rfl
section
variable {lo : Loc} {h0 hb hp : AH} {X : Addr} {n it ic iS iv i1 i2 : Nat} {Q : Fl → St → Prop} {E : Ex → St → Prop} {v : AV} {st : List (Int × Int)}
theorem setv_ne (lo : Loc) {i j : Nat} (v : AV) (h : j ≠ i) : setv lo i v j = lo j := if_neg h
theorem setv_self (lo : Loc) (i : Nat) (v : AV) : setv lo i v i = some v := if_pos rfl
theorem s_sorter {rest : SP} {i : Nat} (s : Ext hb hp) (e : Ext h0 hp) (k : ∀ hp' x, Bld h0 hb hp' x [] (fun _ => 0) (fun _ => []) → Ext hp hp' → rest Q E ⟨setv lo i (.ref x), hp'⟩) : (sSeq (sAssign (pNewS fp_sorter lNil) (aName i)) rest) Q E ⟨lo, hp⟩ := by
  dsimp only [sSeq, sAssign]
  exact b_new s e k
/-- each name is told alone -/
theorem b_names (B : Bld h0 hb hp X [] (fun _ => 0) (fun _ => [])) (hn : n < 1000) (ne : iS ≠ iv) (lc : lo ic = some (.int n)) (ls : lo iS = some (.ref X))
    (k : ∀ lo' hp', (∀ j, j ≠ iv → lo' j = lo j) → Bld h0 hb hp' X (keysN n) (fun _ => 0) (fun _ => []) → Q .next ⟨lo', hp'⟩) : (sFor (iRange (lCons (pName ic) lNil)) (aName iv) (sExpr (pMeth (pName iS) fp_add (lCons (pName iv) lNil)))) Q E ⟨lo, hp⟩ := by
  refine s_for (hb := hb) (zs_range (z_nameI lc) (by (first | lia | omega))) B.s fun hb1 hp1 g => ⟨fun i lo' hp' => (∀ j, j ≠ iv → lo' j = lo j) ∧ Bld h0 hb1 hp' X (keysN i) (fun _ => 0) (fun _ => []), ⟨fun _ _ => rfl, B.gr g⟩, fun i lo' hp' h => h.2.s, ?_, ?_⟩
  · rintro i x w lo2 hp2 hi rfl ⟨h1, B2⟩
    obtain ⟨q, e⟩ := List.getElem?_eq_some_iff.mp hi
    rw [len_keysN] at q
    rw [get_keysN q] at hi
    cases hi
    refine ⟨_, (setv_ne _ _ ne).trans ((h1 _ ne).trans ls), X, B2.inst, _, setv_self .., ?_⟩
    refine b_add (ps := []) B2 (by rw [len_keysN]; show i + 0 < _; (first | lia | omega)) (fun p => by decide) fun hp3 B3 => ⟨fun j hj => (setv_ne _ _ hj).trans (h1 j hj), ?_⟩
    have hik : (i : Int) ∉ keysN i := fun q => by have := mem_keysN.mp q; (first | lia | omega)
    have e1 : addKeys (insK (keysN i) i) [] = keysN (i + 1) := by rw [keysN_succ, ← insK_new hik]; rfl
    have e2 : setI (fun _ : Int => (0 : Int)) i (0 + ([] : List Int).length) = fun _ => 0 := by funext j; unfold setI; split <;> rfl
    have e3 : addSucc (fun _ => []) [] (i : Int) = fun _ => [] := by funext j; rfl
    rw [e1, e2, e3] at B3
    exact B3
  · rintro lo2 hp2 ⟨h1, B2⟩
    rw [len_keysN] at B2
    exact k lo2 hp2 h1 (B2.less (Ext.refl _) g.b)
/-- each step is told -/
theorem b_steps (B : Bld h0 hb hp X (keysN n) (fun _ => 0) (fun _ => [])) (hn : n < 1000) (hst : ∀ p ∈ st, p.1 ∈ keysN n ∧ p.2 ∈ keysN n) (hl : st.length < 1000) (n1 : iS ≠ i1) (n2 : iS ≠ i2) (n3 : i1 ≠ i2) (lt : lo it = some v) (hv : (VL VII).r st v hb) (ls : lo iS = some (.ref X))
    (k : ∀ lo' hp', (∀ j, j ≠ i1 → j ≠ i2 → lo' j = lo j) → Bld h0 hb hp' X (keysN n) (cntS st) (succS st) → Q .next ⟨lo', hp'⟩) : (sFor (iSeq (pName it)) (aTuple [i1, i2]) (sExpr (pMeth (pName iS) fp_add (lCons (pName i2) (lCons (pName i1) lNil))))) Q E ⟨lo, hp⟩ := by
  refine s_for (hb := hb) (zs_list (z_name lt hv)) B.s fun hb1 hp1 g => ⟨fun i lo' hp' => (∀ j, j ≠ i1 → j ≠ i2 → lo' j = lo j) ∧ Bld h0 hb1 hp' X (keysN n) (cntS (st.take i)) (succS (st.take i)), ⟨fun _ _ _ => rfl, B.gr g⟩, fun i lo' hp' h => h.2.s, ?_, ?_⟩
  · rintro i ⟨x, y⟩ w lo2 hp2 hi ⟨a, u, w, rfl, ha, rfl, rfl⟩ ⟨h1, B2⟩
    have hm := List.mem_of_getElem? hi
    obtain ⟨kx, ky⟩ := hst _ hm
    refine ⟨_, B2.s _ _ ha, rfl, ?_⟩
    have f1 : ∀ j, j ≠ i1 → j ≠ i2 → setvs lo2 [i1, i2] [.int x, .int y] j = lo j := fun j q1 q2 => (setv_ne _ _ q2).trans ((setv_ne _ _ q1).trans (h1 j q1 q2))
    refine ⟨_, (f1 _ n1 n2).trans ls, X, B2.inst, _, setv_self .., _, (setv_ne _ _ n3).trans (setv_self ..), ?_⟩
    refine b_add (ps := [x]) B2 (by rw [len_keysN]; show n + 1 < _; (first | lia | omega)) (fun p => ?_) fun hp3 B3 => ⟨f1, ?_⟩
    · have := len_succS (st.take i) p
      rw [List.length_take] at this
      show (succS (st.take i) p).length + 1 < 1000000
      (first | lia | omega)
    · have e0 : st.take (i + 1) = st.take i ++ [(x, y)] := by rw [List.take_add_one, hi]; rfl
      have e1 : addKeys (insK (keysN n) y) [x] = keysN n := by rw [insK_mem ky]; exact insK_mem kx
      rw [e0, cntS_snoc, succS_snoc, ← e1]
      rw [e1] at B3 ⊢
      exact B3
  · rintro lo2 hp2 ⟨h1, B2⟩
    rw [List.take_length] at B2
    exact k lo2 hp2 h1 (B2.less (Ext.refl _) g.b)
end
end
section
section
variable {α : Type} {p q : EP} {t : TP} {lo : Loc} {hb hp : AH} {i n : Nat} {a : Addr} {x y : Int} {ns l : List Int} {mm : List (Option Nat)} {src : IP}
theorem z_lenF (h : lo i = some (.ref a)) (ha : hb a = some (.flist (intsA ns))) : Z (pBi opLen (lCons (pName i) lNil)) VI ns.length lo hb := fun hp s Q E k =>
  ⟨_, h, .inl ⟨_, lst_flist (s _ _ ha), k _ _ _ (.refl s) (by rw [List.length_map]; rfl)⟩⟩
theorem z_sumF (h : lo i = some (.ref a)) (ha : hb a = some (.flist (intsA ns))) : Z (pBi opSum (lCons (pName i) lNil)) VI ns.sum lo hb := fun hp s Q E k =>
  ⟨_, h, ns, lst_flist (s _ _ ha), k _ _ _ (.refl s) rfl⟩
theorem z_itemF (h : lo i = some (.ref a)) (ha : hb a = some (.flist (intsA ns))) (hq : Z q VI y lo hb) (h0 : 0 ≤ y) (hx : ns[y.toNat]? = some x) : Z (pBin opItem (pName i) q) VI x lo hb := fun hp s Q E k =>
  ⟨_, h, hq hp s _ _ fun hb2 hp2 v g hv => by cases hv; exact ⟨_, item_flist (g.s _ _ (g.b _ _ ha)) h0 (by rw [List.getElem?_map, hx]; rfl), k _ _ _ g rfl⟩⟩
/-- a comprehension that only leaves out -/
theorem z_filt {b : Int → Bool} (Z : ZS src VI l lo hb) (hz : l.length < 1000000) (ht : ∀ x ∈ l, ∀ hb1, Ext hb hb1 → ZT t (b x) (setv (capLoc mm lo) 0 (.int x)) hb1) : Mine.Z (pComp mm src (aName 0) (cTest (some t) (cEmit (pName 0)))) (VL VI) (l.filter b) lo hb := by
  have h := z_compF (p := pName 0) (mm := mm) (f := fun x => x) (S := VI) (R := VI) Z hz (fun x hx v hb1 e hr => by cases hr; exact ht x hx hb1 e) fun x hx _ v hb1 e hr => by cases hr; exact z_nameI rfl
  rwa [List.map_id'] at h
theorem set_keys {f : Int → Int} {k v : Int} (hk : k ∈ keysN n) : ((keysN n).map f).set k.toNat v = (keysN n).map (setI f k v) := by
  have hk' := mem_keysN.mp hk
  refine List.ext_getElem (by simp) fun i h1 h2 => ?_
  rw [List.length_map, len_keysN] at h2
  rw [List.getElem_set]
  have e : ∀ h, (keysN n)[i]'h = (i : Int) := fun h => by
    have := get_keysN h2
    rw [List.getElem?_eq_getElem h] at this
    exact Option.some.inj this
  rw [List.getElem_map, List.getElem_map, e]
  unfold setI
  by_cases q : k.toNat = i
  · rw [if_pos q, if_pos (by (first | lia | omega))]
  · rw [if_neg q, if_neg (by (first | lia | omega))]
theorem keys_get {f : Int → α} {k : Int} (hk : k ∈ keysN n) : ((keysN n).map f)[k.toNat]? = some (f k) := by
  have hk' := mem_keysN.mp hk
  rw [List.getElem?_map, get_keysN (by (first | lia | omega) : k.toNat < n)]
  have : ((k.toNat : Nat) : Int) = k := by (first | lia | omega)
  rw [this]; rfl
/-- the item of a list that is told by a function of the names -/
theorem z_keyItem {R : VR α} {f : Int → α} (h1 : Z p (VL R) ((keysN n).map f) lo hb) (h2 : Z q VI y lo hb) (hy : y ∈ keysN n) : Z (pBin opItem p q) R (f y) lo hb := z_item h1 h2 (mem_keysN.mp hy).1 (keys_get hy)
theorem flat_rep (x : Int) (n : Nat) : (List.replicate n [AV.int x]).flatten = intsA ((keysN n).map fun _ => x) := by
  induction n with
  | zero => rfl
  | succ n ih => rw [List.replicate_succ', List.flatten_append, ih, keysN_succ, List.map_append]; simp
end
end
section
/-- the empty part of a heap -/
noncomputable def eH : AH := fun _ => none
theorem eH_ext {hp : AH} : Ext eH hp := fun _ _ h => by cases h
open Classical in
/-- what a sorter owns, and the sorter -/
noncomputable def cutH (hp : AH) (own : Addr → Prop) (x : Addr) : AH := fun a => if own a ∨ a = x then hp a else none
section
variable {h0 hb hp w : AH} {X : Addr} {own : Addr → Prop} {a : Addr}
theorem cut_in (h : own a ∨ a = X) : cutH hp own X a = hp a := if_pos h
theorem cut_ext : Ext (cutH hp own X) hp := fun a o h => by
  unfold cutH at h
  split at h
  · exact h
  · cases h
theorem cut_own (h : cutH hp own X a ≠ none) : own a ∨ a = X := by
  unfold cutH at h
  split at h
  · assumption
  · exact absurd rfl h
theorem cut_frm : Frm hp (fun a => ¬ (own a ∨ a = X)) (cutH hp own X) (fun a => ¬ (own a ∨ a = X)) := fun a o e n => ⟨by rw [cut_in (Classical.not_not.mp n)]; exact e, n⟩
/-- a sorter behind prepare, alone in a part of the heap -/
noncomputable def RS (w : AH) (x : Addr) (keys : List Int) (succ : Int → List Int) (don out : Int → Bool) (Rs : List Int) : Prop := ∃ own d n2i rec suc rl, Run w own x d n2i rec suc keys succ don out rl Rs ∧ ¬ own x
variable {keys : List Int} {succ : Int → List Int} {don out : Int → Bool} {Rs : List Int}
theorem Rn.cut (B : Rn h0 hb hp X keys succ don out Rs) : ∃ w, RS w X keys succ don out Rs ∧ Ext w hp ∧ ∀ a, w a ≠ none → hb a = none ∧ h0 a = none := by
  obtain ⟨own, d, n2i, rec, suc, rl, r, b⟩ := B
  refine ⟨cutH hp own X, ⟨own, d, n2i, rec, suc, rl, { r with S := r.S.frame cut_frm (fun a ha q => q (.inl ha)) fun q => q (.inr rfl), hrl := (cut_in (.inl r.orl)).trans r.hrl }, b.xo⟩, cut_ext, fun a ha => ?_⟩
  rcases cut_own ha with h | rfl
  · exact ⟨b.ob a h, b.o0 a h⟩
  · exact ⟨b.xb, b.x0⟩
theorem RS.put (B : RS w X keys succ don out Rs) (ew : Ext w hp) (s : Ext hb hp) (e0 : Ext h0 hp) (dj : ∀ a, w a ≠ none → hb a = none ∧ h0 a = none) : Rn h0 hb hp X keys succ don out Rs := by
  obtain ⟨own, d, n2i, rec, suc, rl, r, xo⟩ := B
  exact ⟨own, d, n2i, rec, suc, rl, r.ext ew, e0, s, fun a ha => (dj a (r.S.al a ha)).2, fun a ha => (dj a (r.S.al a ha)).1, (dj X (by rw [r.S.hx]; nofun)).2, (dj X (by rw [r.S.hx]; nofun)).1, xo⟩
/-- the rest of the heap -/
noncomputable def rst (hp w : AH) : AH := fun a => match w a with
  | some _ => none
  | none => hp a
theorem rst_in (h : w a = none) : rst hp w a = hp a := by unfold rst; rw [h]
theorem rst_out (h : w a ≠ none) : rst hp w a = none := by
  unfold rst
  cases q : w a with
  | none => exact absurd q h
  | some o => rfl
theorem rst_ext : Ext (rst hp w) hp := fun a o h => by
  unfold rst at h
  split at h
  · cases h
  · exact h
theorem RS.all (B : RS w X keys succ don out Rs) (ew : Ext w hp) : Rn eH (rst hp w) hp X keys succ don out Rs := B.put ew rst_ext eH_ext fun a ha => ⟨rst_out ha, rfl⟩
theorem RS.inst {lo : Loc} (B : RS w X keys succ don out Rs) (ew : Ext w hp) : isInst ⟨lo, hp⟩ (.ref X) X := (B.all ew).inst
theorem RS.mem (B : RS w X keys succ don out Rs) {k : Int} : k ∈ Rs ↔ k ∈ keys ∧ don k = false ∧ out k = false ∧ ∀ v ∈ keys, k ∈ succ v → don v = true := (B.all (Ext.refl _)).mem
theorem RS.nodup (B : RS w X keys succ don out Rs) : Rs.Nodup := (B.all (Ext.refl _)).nodup
theorem RS.isDon (B : RS w X keys succ don out Rs) {k : Int} (h : don k = true) : k ∈ keys ∧ ∀ v ∈ keys, k ∈ succ v → don v = true := (B.all (Ext.refl _)).isDon h
theorem RS.isOut (B : RS w X keys succ don out Rs) {k : Int} (h : out k = true) : k ∈ keys ∧ don k = false ∧ ∀ v ∈ keys, k ∈ succ v → don v = true := (B.all (Ext.refl _)).isOut h
theorem h_ready {Q : AV → AH → Prop} {E : Ex → AH → Prop} (B : RS w X keys succ don out Rs) (ew : Ext w hp)
    (k : ∀ hp' w' t, hp t = none → RS w' X keys succ don (fun k => out k || decide (k ∈ Rs)) [] → Ext w' hp' → Ext (rst hp w) hp' → hp' t = some (.tup (intsA Rs)) → (∀ a, w' a ≠ none → rst hp w a = none ∧ a ≠ t) → Q (.ref t) hp') : fp_get_ready [.ref X] Q E hp := by
  refine r_ready (B.all ew) fun hp' t zt B2 => ?_
  obtain ⟨w', R, e, dj⟩ := B2.cut
  have nt : rst hp w t = none := rst_ext.none zt
  refine k hp' w' t zt R e ((Ext.new _ nt).trans B2.s) (B2.s _ _ (upd_self ..)) fun a ha => ?_
  have h := (dj a ha).1
  have q : a ≠ t := fun q => by rw [q, upd_self] at h; cases h
  rw [upd_ne q] at h
  exact ⟨h, q⟩
theorem h_done {Q : AV → AH → Prop} {E : Ex → AH → Prop} {vs : List Int} (B : RS w X keys succ don out Rs) (ew : Ext w hp) (hnd : vs.Nodup) (ho : ∀ v ∈ vs, out v = true)
    (k : ∀ hp' w' N, RS w' X keys succ (addB don vs) (subB out vs) (Rs ++ N) → Ext w' hp' → Ext (rst hp w) hp' → (∀ a, w' a ≠ none → rst hp w a = none) → Q .none hp') : fp_done (.ref X :: intsA vs) Q E hp := by
  refine r_done (B.all ew) hnd ho fun hp' N B2 => ?_
  obtain ⟨w', R, e, dj⟩ := B2.cut
  exact k hp' w' N R e B2.s fun a ha => (dj a ha).1
/-- parts of a heap that lie apart -/
noncomputable def Dj (h h' : AH) : Prop := ∀ a, h a ≠ none → h' a = none
theorem Dj.symm {h h' : AH} (d : Dj h h') : Dj h' h := fun a ha => by
  cases q : h a with
  | none => rfl
  | some o => exact absurd (d a (by rw [q]; nofun)) ha
structure Sep (hb : AH) (ws : List AH) (hp : AH) : Prop where
  s : Ext hb hp
  e : ∀ w ∈ ws, Ext w hp
  b : ∀ w ∈ ws, Dj w hb
  p : ws.Pairwise Dj
variable {hb' hp' w' : AH} {ws : List AH}
theorem Sep.rot (S : Sep hb (w :: ws) hp) : Sep hb (ws ++ [w]) hp := by
  have hp := List.pairwise_cons.mp S.p
  refine ⟨S.s, fun v hv => S.e v ?_, fun v hv => S.b v ?_, List.pairwise_append.mpr ⟨hp.2, List.pairwise_singleton .., fun a ha b hb => ?_⟩⟩
  · rcases List.mem_append.mp hv with h | h
    · exact List.mem_cons_of_mem _ h
    · rw [List.mem_singleton.mp h]; exact List.mem_cons_self ..
  · rcases List.mem_append.mp hv with h | h
    · exact List.mem_cons_of_mem _ h
    · rw [List.mem_singleton.mp h]; exact List.mem_cons_self ..
  · rw [List.mem_singleton.mp hb]; exact (hp.1 a ha).symm
theorem Sep.gr (S : Sep hb ws hp) (g : Gr hb hp hb' hp') : Sep hb' ws hp' :=
  ⟨g.s, fun w hw => (S.e w hw).trans g.e, fun w hw a ha => g.n a (S.b w hw a ha) ((S.e w hw).some ha), S.p⟩
theorem Sep.ext (S : Sep hb ws hp) (e : Ext hp hp') : Sep hb ws hp' := ⟨S.s.trans e, fun w hw => (S.e w hw).trans e, S.b, S.p⟩
theorem Dj.rst (d : Dj w hb) (s : Ext hb hp) : Ext hb (Mine.rst hp w) := fun a o h => by
  have : w a = none := by
    cases q : w a with
    | none => rfl
    | some o' => rw [d a (by rw [q]; nofun)] at h; cases h
  rw [rst_in this]; exact s _ _ h
theorem Dj.of (d : Ext hb hb') (h : Dj w hb') : Dj w hb := fun a ha => d.none (h a ha)
/-- the first part is changed -/
theorem Sep.step (S : Sep hb (w :: ws) hp) (e1 : Ext (Mine.rst hp w) hp') (e2 : Ext w' hp') (h : ∀ a, w' a ≠ none → Mine.rst hp w a = none) : Sep hb (w' :: ws) hp' := by
  have hp0 := List.pairwise_cons.mp S.p
  have key : ∀ v ∈ ws, Ext v (Mine.rst hp w) := fun v hv => (hp0.1 v hv).rst (S.e v (List.mem_cons_of_mem _ hv))
  have kb := (S.b w (List.mem_cons_self ..)).rst S.s
  refine ⟨kb.trans e1, fun v hv => ?_, fun v hv => ?_, List.pairwise_cons.mpr ⟨fun v hv => Dj.of (key v hv) h, hp0.2⟩⟩
  · rcases List.mem_cons.mp hv with rfl | hv
    · exact e2
    · exact (key v hv).trans e1
  · rcases List.mem_cons.mp hv with rfl | hv
    · exact Dj.of kb h
    · exact S.b v (List.mem_cons_of_mem _ hv)
/-- the first part is changed, and a new object is known from now on -/
theorem Sep.stepT {t : Addr} {o : AObj} (S : Sep hb (w :: ws) hp) (e1 : Ext (Mine.rst hp w) hp') (e2 : Ext w' hp') (zt : hp t = none) (ht : hp' t = some o) (h : ∀ a, w' a ≠ none → Mine.rst hp w a = none ∧ a ≠ t) : Sep (upd hb t o) (w' :: ws) hp' := by
  have S2 := S.step e1 e2 fun a ha => (h a ha).1
  refine ⟨fun a o' q => ?_, S2.e, fun v hv a ha => ?_, S2.p⟩
  · by_cases r : a = t
    · rw [r, upd_self] at q; rw [r, ht]; exact q
    · rw [upd_ne r] at q; exact S2.s _ _ q
  · have r : a ≠ t := by
      rcases List.mem_cons.mp hv with rfl | hv
      · exact (h a ha).2
      · rintro rfl; exact ha ((S.e v (List.mem_cons_of_mem _ hv)).none zt)
    rw [upd_ne r]; exact S2.b v hv a ha
end
end
section
-- _law_steps
noncomputable def D_steps : FD := { vars := [("cells", .loc), ("size", .loc), ("steps", .loc), ("cell", .loc), ("first", .loc), ("second", .loc)], globs := ["min", "max"], calm := true, fn := true, depth := 0 }
noncomputable def pt_steps : SP :=
  (sSeq (sAssign (pIf (tOf (pBin opEq (pName 1) (pInt 5))) (pList (lCons (pTuple (lCons (pInt 0) (lCons (pInt 1) lNil))) (lCons (pTuple (lCons (pInt 2) (lCons (pInt 3) lNil))) lNil))) (pList lNil)) (aName 2)) (sSeq (sFor (iSeq (pName 0)) (aName 3) (sSeq (sPair (lCons (pBin opMod (pName 3) (pName 1)) (lCons (pBin opMod (pBin opDiv (pName 3) (pName 1)) (pName 1)) lNil)) [4, 5]) (sSeq (sIf (tOf (pBin opNe (pBin opMod (pBin opDiv (pBin opDiv (pName 3) (pName 1)) (pName 1)) (pInt 4)) (pInt 3))) (sPair (lCons (pBi opMin2 (lCons (pName 4) (lCons (pName 5) lNil))) (lCons (pBi opMax2 (lCons (pName 4) (lCons (pName 5) lNil))) lNil)) [4, 5]) sNil) (sIf (tOr (tOf (pBin opNe (pName 4) (pName 5))) (tOf (pBin opEq (pBin opMod (pBin opDiv (pBin opDiv (pName 3) (pName 1)) (pName 1)) (pInt 4)) (pInt 3)))) (sExpr (pBm "list" opAppend (pName 2) (lCons (pTuple (lCons (pName 4) (lCons (pName 5) lNil))) lNil))) sNil)))) (sRet (pName 2))))
noncomputable def fp_steps : FP := fpOf 2 pt_steps
-- _law_told
noncomputable def D_told : FD := { vars := [("steps", .loc), ("size", .loc), ("sorter", .loc), ("name", .loc), ("first", .loc), ("second", .loc)], globs := ["TopologicalSorter", "range", "CycleError"], calm := true, fn := true, depth := 3 }
noncomputable def pt_told : SP :=
  (sSeq (sAssign (pNewS fp_sorter lNil) (aName 2)) (sSeq (sFor (iRange (lCons (pName 1) lNil)) (aName 3) (sExpr (pMeth (pName 2) fp_add (lCons (pName 3) lNil)))) (sSeq (sFor (iSeq (pName 0)) (aTuple [4, 5]) (sExpr (pMeth (pName 2) fp_add (lCons (pName 5) (lCons (pName 4) lNil))))) (sSeq (sTry (sExpr (pMeth (pName 2) fp_prepare lNil)) sNil (sRet (pTuple (lCons (pName 2) (lCons (pBool true) lNil)))) .cycle) (sRet (pTuple (lCons (pName 2) (lCons (pBool false) lNil))))))))
noncomputable def fp_told : FP := fpOf 2 pt_told
-- _law_link
noncomputable def D_link : FD := { vars := [("book", .loc), ("one", .loc), ("other", .loc), ("name", .loc)], globs := ["_NodeInfo"], calm := true, fn := true, depth := 1 }
noncomputable def pt_link : SP :=
  (sSeq (sFor (iSeq (pTuple (lCons (pName 1) (lCons (pName 2) lNil)))) (aName 3) (sIf (tOf (pBin opNotIn (pName 3) (pName 0))) (sAssign (pNewN fp_record (lCons (pName 3) lNil)) (aItem (pName 0) (pName 3))) sNil)) (sIf (tOf (pBin opNe (pName 1) (pName 2))) (sSeq (sExpr (pBm "list" opAppend (pUn (opAttrN 2) (pBin opItem (pName 0) (pName 1))) (lCons (pName 2) lNil))) (sAugN 1 iAdd (pBin opItem (pName 0) (pName 2)) (pInt 1))) sNil))
noncomputable def fp_link : FP := fpOf 3 pt_link
-- law
noncomputable def D_law : FD := { vars := [("script", .loc), ("cells", .loc), ("place", .loc), ("size", .loc), ("steps", .loc), ("ahead", .cell), ("turn", .loc), ("first", .loc), ("second", .loc), ("rings", .cell), ("free", .cell), ("table", .loc), ("small", .loc), ("book", .cell), ("rows", .loc), ("mask", .cell), ("names", .cell), ("name", .cell), ("ones", .loc), ("one", .loc), ("other", .loc), ("sorter", .loc), ("ring", .loc), ("waits", .loc), ("row", .loc), ("group", .loc), ("sets", .loc), ("some", .loc)], globs := ["range", "len", "sum", "_law_steps", "TopologicalSorter", "_law_link", "sorted", "_law_told"], calm := true, fn := true, depth := 4 }
noncomputable def D_law_c1 : FD := { vars := [("name", .loc), ("ahead", .cap)], globs := [], calm := true, fn := false, depth := 4 }
noncomputable def D_law_c2 : FD := { vars := [("name", .cell), ("rings", .cap), ("ahead", .cap)], globs := [], calm := true, fn := false, depth := 4 }
noncomputable def D_law_c2_c3 : FD := { vars := [("x", .loc), ("ahead", .cap), ("name", .cap)], globs := [], calm := true, fn := false, depth := 4 }
noncomputable def D_law_c4 : FD := { vars := [("count", .loc)], globs := [], calm := true, fn := false, depth := 4 }
noncomputable def D_law_c5 : FD := { vars := [("name", .loc), ("mask", .cap)], globs := [], calm := true, fn := false, depth := 4 }
noncomputable def D_law_c6 : FD := { vars := [("name", .loc), ("free", .cap), ("ahead", .cap), ("mask", .cap)], globs := [], calm := true, fn := false, depth := 4 }
noncomputable def D_law_c7 : FD := { vars := [("first", .loc), ("second", .loc), ("name", .cap), ("names", .cap)], globs := [], calm := true, fn := false, depth := 4 }
noncomputable def D_law_c8 : FD := { vars := [("mask", .loc), ("book", .cap)], globs := [], calm := true, fn := false, depth := 4 }
noncomputable def D_law_c9 : FD := { vars := [("name", .loc), ("ahead", .cap)], globs := [], calm := true, fn := false, depth := 4 }
noncomputable def D_law_c10 : FD := { vars := [("name", .loc), ("mask", .cap)], globs := [], calm := true, fn := false, depth := 4 }
noncomputable def D_law_c11 : FD := { vars := [("name", .loc), ("ahead", .cap)], globs := [], calm := true, fn := false, depth := 4 }
noncomputable def pt_law : SP :=
  (sSeq (sAssign (pList (lCons (pInt 15) (lCons (pInt 21) (lCons (pInt 22) (lCons (pInt 9) (lCons (pInt 0) (lCons (pInt 6) lNil))))))) (aName 1)) (sSeq (sFor (iRange (lCons (pBi opLen (lCons (pName 0) lNil)) lNil)) (aName 2) (sAugItem iAdd (pName 1) (pBin opMod (pName 2) (pInt 6)) (pBin opItem (pName 0) (pName 2)))) (sSeq (sAssign (pBin opAdd (pInt 2) (pBin opMod (pBin opAdd (pBi opSum (lCons (pName 0) lNil)) (pInt 3)) (pInt 4))) (aName 3)) (sSeq (sAssign (pCall fp_steps (lCons (pName 1) (lCons (pName 3) lNil))) (aName 4)) (sSeq (sAssign (pBin opMul (pList (lCons (pInt 0) lNil)) (pName 3)) (aName 5)) (sSeq (sFor (iRange (lCons (pName 3) lNil)) (aName 6) (sFor (iSeq (pName 4)) (aTuple [7, 8]) (sAssign (pBin opOr (pBin opOr (pBin opItem (pName 5) (pName 8)) (pBin opItem (pName 5) (pName 7))) (pBin opPow (pInt 2) (pName 7))) (aItem (pName 5) (pName 8))))) (sSeq (sAssign (pComp [none, some 5] (iRange (lCons (pName 3) lNil)) (aName 0) (cTest (some (tOf (pBin opAnd (pBin opShr (pBin opItem (pName 1) (pName 0)) (pName 0)) (pInt 1)))) (cEmit (pName 0)))) (aName 9)) (sSeq (sAssign (pComp [none, some 9, some 5] (iRange (lCons (pName 3) lNil)) (aName 0) (cTest (some (tAnd (tOf (pBin opNotIn (pName 0) (pName 1))) (tOf (pBin opEq (pComp [none, some 2, some 0] (iSeq (pName 1)) (aName 0) (cTest (some (tOf (pBin opAnd (pBin opShr (pBin opItem (pName 1) (pName 2)) (pName 0)) (pInt 1)))) (cEmit (pName 0)))) (pList lNil))))) (cEmit (pName 0)))) (aName 10)) (sSeq (sPair (lCons (pNewS fp_sorter lNil) (lCons (pNewS fp_sorter lNil) lNil)) [11, 12]) (sSeq (sAssign (pUn (opAttrS 0) (pName 11)) (aName 13)) (sSeq (sExpr (pCall fp_link (lCons (pName 13) (lCons (pInt 0) (lCons (pInt 0) lNil))))) (sSeq (sAssign (pComp [none] (iRange (lCons (pBin opAdd (pName 3) (pInt 1)) lNil)) (aName 0) (cTest none (cEmit (pList lNil)))) (aName 14)) (sSeq (sFor (iRange (lCons (pBin opPow (pInt 2) (pName 3)) lNil)) (aName 15) (sSeq (sAssign (pComp [none, some 15] (iRange (lCons (pName 3) lNil)) (aName 0) (cTest (some (tOf (pBin opAnd (pBin opShr (pName 1) (pName 0)) (pInt 1)))) (cEmit (pName 0)))) (aName 16)) (sSeq (sIf (tOf (pBin opEq (pComp [none, some 10, some 5, some 15] (iSeq (pName 16)) (aName 0) (cTest (some (tOr (tOf (pBin opNotIn (pName 0) (pName 1))) (tOf (pBin opNe (pBin opOr (pBin opItem (pName 2) (pName 0)) (pName 3)) (pName 3))))) (cEmit (pName 0)))) (pList lNil))) (sExpr (pBm "list" opAppend (pBin opItem (pName 14) (pBi opLen (lCons (pName 16) lNil))) (lCons (pName 15) lNil))) sNil) (sIf (tOf (pBin opIn (pName 15) (pName 13))) (sFor (iRange (lCons (pName 3) lNil)) (aName 17) (sIf (tAnd (tOf (pBin opNotIn (pName 17) (pName 16))) (tOf (pBin opEq (pComp [none, none, some 17, some 16] (iSeq (pName 4)) (aTuple [0, 1]) (cTest (some (tAnd (tOf (pBin opEq (pName 1) (pName 2))) (tOf (pBin opNotIn (pName 0) (pName 3))))) (cEmit (pName 0)))) (pList lNil)))) (sExpr (pCall fp_link (lCons (pName 13) (lCons (pName 15) (lCons (pBin opAdd (pName 15) (pBin opPow (pInt 2) (pName 17))) lNil))))) sNil)) sNil)))) (sSeq (sAssign (pComp [none, some 13] (iSeq (pName 13)) (aName 0) (cTest (some (tOf (pBin opEq (pUn (opAttrN 1) (pBin opItem (pName 1) (pName 0))) (pInt 1)))) (cEmit (pName 0)))) (aName 18)) (sSeq (sIf (tOf (pBin opNe (pBi opSorted (lCons (pName 18) lNil)) (pBi opSorted (lCons (pComp [none, some 5] (iSeq (pName 10)) (aName 0) (cTest none (cEmit (pBin opAdd (pBin opItem (pName 1) (pName 0)) (pBin opPow (pInt 2) (pName 0)))))) lNil)))) (sRet (pBool false)) sNil) (sSeq (sFor (iSeq (pName 18)) (aName 19) (sFor (iSeq (pName 18)) (aName 20) (sIf (tOf (pBin opEq (pBin opOr (pName 19) (pName 20)) (pName 20))) (sExpr (pCall fp_link (lCons (pUn (opAttrS 0) (pName 12)) (lCons (pName 19) (lCons (pName 20) lNil))))) sNil))) (sSeq (sAssign (pCall fp_told (lCons (pName 4) (lCons (pName 3) lNil))) (aTuple [21, 22])) (sSeq (sIf (tOf (pBin opNe (pName 22) (pBin opNe (pName 9) (pList lNil)))) (sRet (pBool false)) sNil) (sSeq (sPair (lCons (pInt 0) (lCons (pList lNil) lNil)) [15, 23]) (sSeq (sFor (iRange (lCons (pBin opAdd (pName 3) (pInt 1)) lNil)) (aName 6) (sSeq (sExpr (pBm "list" opExtend (pName 23) (lCons (pMeth (pName 21) fp_get_ready lNil) lNil))) (sSeq (sIf (tOf (pBin opNe (pBi opSorted (lCons (pUn (opAttrN 2) (pBin opItem (pName 13) (pName 15))) lNil)) (pBi opSorted (lCons (pComp [none, some 15] (iSeq (pName 23)) (aName 0) (cTest none (cEmit (pBin opAdd (pName 1) (pBin opPow (pInt 2) (pName 0)))))) lNil)))) (sRet (pBool false)) sNil) (sIf (tOf (pBin opNe (pName 23) (pList lNil))) (sSeq (sAssign (pBm "list" opPop (pName 23) (lCons (pBin opMod (pBin opItem (pName 1) (pName 6)) (pBi opLen (lCons (pName 23) lNil))) lNil)) (aName 17)) (sSeq (sExpr (pMeth (pName 21) fp_done (lCons (pName 17) lNil))) (sAugName iAdd 15 (pBin opPow (pInt 2) (pName 17))))) sNil)))) (sSeq (sAssign (pCall fp_told (lCons (pName 4) (lCons (pName 3) lNil))) (aTuple [21, 22])) (sSeq (sExpr (pMeth (pName 11) fp_prepare lNil)) (sSeq (sExpr (pMeth (pName 12) fp_prepare lNil)) (sSeq (sFor (iSeq (pName 14)) (aName 24) (sSeq (sPair (lCons (pMeth (pName 21) fp_get_ready lNil) (lCons (pMeth (pName 11) fp_get_ready lNil) (lCons (pMeth (pName 12) fp_get_ready lNil) lNil))) [25, 26, 27]) (sSeq (sIf (tOr (tOf (pBin opNe (pBi opSorted (lCons (pName 26) lNil)) (pName 24))) (tOf (pBin opNe (pBi opSorted (lCons (pName 27) lNil)) (pBi opSorted (lCons (pComp [none, some 5] (iSeq (pName 25)) (aName 0) (cTest none (cEmit (pBin opAdd (pBin opItem (pName 1) (pName 0)) (pBin opPow (pInt 2) (pName 0)))))) lNil))))) (sRet (pBool false)) sNil) (sSeq (sExpr (pMeth (pName 21) fp_done (lStar (pName 25)))) (sSeq (sExpr (pMeth (pName 11) fp_done (lStar (pName 26)))) (sExpr (pMeth (pName 12) fp_done (lStar (pName 27))))))))) (sRet (pBool true))))))))))))))))))))))))))
noncomputable def fp_law : FP := fpOf 1 pt_law
end
section
noncomputable def noSt : Stmt := .Pass { line := 0, col := 0, endLine := 0, endCol := 0 }
noncomputable def nthS : List Stmt → Nat → Stmt
  | [], _ => noSt
  | a :: _, 0 => a
  | _ :: l, n + 1 => nthS l n
noncomputable def tp (i : Nat) : Stmt := nthS Challenge.pw_dm0130_12.main.body i
noncomputable def clsBody : Stmt → List Stmt
  | .ClassDef _ _ _ b _ _ _ _ _ _ _ => b
  | _ => []
noncomputable def mt (i j : Nat) : Stmt := nthS (clsBody (tp i)) j
noncomputable def fName : Stmt → Str
  | .FunctionDef n _ _ _ _ _ _ _ _ _ => n
  | _ => Str.ofString ""
noncomputable def fArgs : Stmt → Arguments
  | .FunctionDef _ a _ _ _ _ _ _ _ _ => a
  | _ => { posonlyargs := [], args := [], vararg := none, kwonlyargs := [], kw_defaults := [], kwarg := none, defaults := [] }
noncomputable def fBody : Stmt → List Stmt
  | .FunctionDef _ _ b _ _ _ _ _ _ _ => b
  | _ => []
noncomputable def fScope : Stmt → Scope
  | .FunctionDef _ _ _ _ _ _ s _ _ _ => s
  | _ => { kind := ScopeKind.function, names := [], isGenerator := false, isCoroutine := false }
noncomputable def k3 (P : Params) : Nat × Obj := (3, { cls := Value.type "dict", data := Data.dict #[{ hash := PyData.keyHash P (Str.ofString "__name__"), key := Value.str (Str.ofString "__name__") 165, val := Value.str (Str.ofString "law_dm0130_12") 376 }, { hash := PyData.keyHash P (Str.ofString "__doc__"), key := Value.str (Str.ofString "__doc__") 166, val := Value.none }, { hash := PyData.keyHash P (Str.ofString "__package__"), key := Value.str (Str.ofString "__package__") 167, val := Value.none }, { hash := PyData.keyHash P (Str.ofString "__loader__"), key := Value.str (Str.ofString "__loader__") 168, val := Value.builtin "__main__.__loader__#opaque" }, { hash := PyData.keyHash P (Str.ofString "__spec__"), key := Value.str (Str.ofString "__spec__") 169, val := Value.none }, { hash := PyData.keyHash P (Str.ofString "__annotations__"), key := Value.str (Str.ofString "__annotations__") 170, val := Value.ref 6 }, { hash := PyData.keyHash P (Str.ofString "__builtins__"), key := Value.str (Str.ofString "__builtins__") 171, val := Value.ref 4 }, { hash := PyData.keyHash P (Str.ofString "__file__"), key := Value.str (Str.ofString "__file__") 173, val := Value.str (Str.ofString "/claim/cut.py") 172 }, { hash := PyData.keyHash P (Str.ofString "__cached__"), key := Value.str (Str.ofString "__cached__") 174, val := Value.none }, { hash := PyData.keyHash P (Str.ofString "_wall"), key := Value.str (Str.ofString "_wall") 193, val := Value.ref 21 }, { hash := PyData.keyHash P (Str.ofString "_NODE_OUT"), key := Value.str (Str.ofString "_NODE_OUT") 198, val := Value.int (-1) 197 }, { hash := PyData.keyHash P (Str.ofString "_NODE_DONE"), key := Value.str (Str.ofString "_NODE_DONE") 201, val := Value.int (-2) 200 }, { hash := PyData.keyHash P (Str.ofString "_NodeInfo"), key := Value.str (Str.ofString "_NodeInfo") 238, val := Value.ref 40 }, { hash := PyData.keyHash P (Str.ofString "CycleError"), key := Value.str (Str.ofString "CycleError") 256, val := Value.ref 55 }, { hash := PyData.keyHash P (Str.ofString "TopologicalSorter"), key := Value.str (Str.ofString "TopologicalSorter") 375, val := Value.ref 137 }, { hash := PyData.keyHash P (Str.ofString "_law_steps"), key := Value.str (Str.ofString "_law_steps") 389, val := Value.ref 148 }, { hash := PyData.keyHash P (Str.ofString "_law_told"), key := Value.str (Str.ofString "_law_told") 401, val := Value.ref 155 }, { hash := PyData.keyHash P (Str.ofString "_law_link"), key := Value.str (Str.ofString "_law_link") 411, val := Value.ref 162 }, { hash := PyData.keyHash P (Str.ofString "law"), key := Value.str (Str.ofString "law") 417, val := Value.ref 167 }] 19 })
noncomputable def k17 (P : Params) : Nat × Obj := (17, { cls := Value.type "tuple", data := Data.seq #[Value.str (Str.ofString "k") 190] })
noncomputable def k20 (P : Params) : Nat × Obj := (20, { cls := Value.type "code", data := Data.fields #[Value.str (Str.ofString "_wall") 187, Value.str (Str.ofString "_wall") 188, Value.str (Str.ofString "/claim/cut.py") 189, Value.int 1 0, Value.int 1 0, Value.int 0 0, Value.int 0 0, Value.int 3 0, Value.ref 15, Value.bool true, Value.int 181 0, Value.ref 16, Value.none, Value.ref 17, Value.ref 18, Value.ref 19, Value.int 191 0, Value.int 1 0, Value.str (Str.ofString "/claim/cut.py") 192] })
noncomputable def k21 (P : Params) : Nat × Obj := (21, { cls := Value.type "function", data := Data.func { name := fName (tp 0), qualname := Str.ofString "_wall", params := fArgs (tp 0), body := FuncBody.stmts (fBody (tp 0)), scope := fScope (tp 0), globals := 3, closure := [], defaults := Value.none, kwdefaults := Value.none, pyModule := Value.str (Str.ofString "__main__") 164, code := Value.ref 20 } })
noncomputable def k29 (P : Params) : Nat × Obj := (29, { cls := Value.type "tuple", data := Data.seq #[Value.str (Str.ofString "node") 214, Value.str (Str.ofString "npredecessors") 215, Value.str (Str.ofString "successors") 216] })
noncomputable def k32 (P : Params) : Nat × Obj := (32, { cls := Value.type "tuple", data := Data.seq #[Value.str (Str.ofString "self") 221, Value.str (Str.ofString "node") 222] })
noncomputable def k35 (P : Params) : Nat × Obj := (35, { cls := Value.type "code", data := Data.fields #[Value.str (Str.ofString "__init__") 218, Value.str (Str.ofString "_NodeInfo.__init__") 219, Value.str (Str.ofString "/claim/cut.py") 220, Value.int 10 0, Value.int 2 0, Value.int 0 0, Value.int 0 0, Value.int 3 0, Value.ref 30, Value.bool true, Value.int 181 0, Value.ref 31, Value.none, Value.ref 32, Value.ref 33, Value.ref 34, Value.int 223 0, Value.int 10 0, Value.str (Str.ofString "/claim/cut.py") 224] })
noncomputable def k36 (P : Params) : Nat × Obj := (36, { cls := Value.type "function", data := Data.func { name := fName (mt 4 1), qualname := Str.ofString "_NodeInfo.__init__", params := fArgs (mt 4 1), body := FuncBody.stmts (fBody (mt 4 1)), scope := fScope (mt 4 1), globals := 3, closure := [], defaults := Value.none, kwdefaults := Value.none, pyModule := Value.str (Str.ofString "cpy313.graphlib") 194, code := Value.ref 35 } })
noncomputable def k37 (P : Params) : Nat × Obj := (37, { cls := Value.type "tuple", data := Data.seq #[Value.str (Str.ofString "node") 226, Value.str (Str.ofString "npredecessors") 227, Value.str (Str.ofString "successors") 228] })
noncomputable def k39 (P : Params) : Nat × Obj := (39, { cls := Value.type "dict", data := Data.dict #[{ hash := PyData.keyHash P (Str.ofString "__module__"), key := Value.str (Str.ofString "__module__") 209, val := Value.str (Str.ofString "cpy313.graphlib") 194 }, { hash := PyData.keyHash P (Str.ofString "__firstlineno__"), key := Value.str (Str.ofString "__firstlineno__") 213, val := Value.int 7 212 }, { hash := PyData.keyHash P (Str.ofString "__slots__"), key := Value.str (Str.ofString "__slots__") 217, val := Value.ref 29 }, { hash := PyData.keyHash P (Str.ofString "__init__"), key := Value.str (Str.ofString "__init__") 225, val := Value.ref 36 }, { hash := PyData.keyHash P (Str.ofString "__static_attributes__"), key := Value.str (Str.ofString "__static_attributes__") 229, val := Value.ref 37 }, { hash := PyData.keyHash P (Str.ofString "node"), key := Value.str (Str.ofString "node") 231, val := Value.ref 41 }, { hash := PyData.keyHash P (Str.ofString "npredecessors"), key := Value.str (Str.ofString "npredecessors") 233, val := Value.ref 42 }, { hash := PyData.keyHash P (Str.ofString "successors"), key := Value.str (Str.ofString "successors") 235, val := Value.ref 43 }, { hash := PyData.keyHash P (Str.ofString "__doc__"), key := Value.str (Str.ofString "__doc__") 236, val := Value.none }] 5 })
noncomputable def k40 (P : Params) : Nat × Obj := (40, { cls := Value.type "type", data := Data.cls { name := Str.ofString "_NodeInfo", bases := [Value.type "object"], mro := [Value.ref 40, Value.type "object"], ns := 39, qualname := Str.ofString "_NodeInfo", hasDict := false, slotNames := [Str.ofString "node", Str.ofString "npredecessors", Str.ofString "successors"] }, slots := #[none, none, some (Value.str (Str.ofString "_NodeInfo") 202), some (Value.str (Str.ofString "_NodeInfo") 210), some (Value.builtin "object.__new__"), some (Value.bool false)] })
noncomputable def k41 (P : Params) : Nat × Obj := (41, { cls := Value.type "member_descriptor", data := Data.fields #[Value.str (Str.ofString "node") 230, Value.ref 40, Value.builtin "proto.slot", Value.builtin "proto.slot#set", Value.int 2 0] })
noncomputable def k42 (P : Params) : Nat × Obj := (42, { cls := Value.type "member_descriptor", data := Data.fields #[Value.str (Str.ofString "npredecessors") 232, Value.ref 40, Value.builtin "proto.slot", Value.builtin "proto.slot#set", Value.int 1 0] })
noncomputable def k43 (P : Params) : Nat × Obj := (43, { cls := Value.type "member_descriptor", data := Data.fields #[Value.str (Str.ofString "successors") 234, Value.ref 40, Value.builtin "proto.slot", Value.builtin "proto.slot#set", Value.int 0 0] })
noncomputable def k46 (P : Params) : Nat × Obj := (46, { cls := Value.type "tuple", data := Data.seq #[Value.type "ValueError"] })
noncomputable def k54 (P : Params) : Nat × Obj := (54, { cls := Value.type "dict", data := Data.dict #[{ hash := PyData.keyHash P (Str.ofString "__module__"), key := Value.str (Str.ofString "__module__") 246, val := Value.str (Str.ofString "cpy313.graphlib") 194 }, { hash := PyData.keyHash P (Str.ofString "__firstlineno__"), key := Value.str (Str.ofString "__firstlineno__") 250, val := Value.int 14 249 }, { hash := PyData.keyHash P (Str.ofString "__static_attributes__"), key := Value.str (Str.ofString "__static_attributes__") 251, val := Value.ref 53 }, { hash := PyData.keyHash P (Str.ofString "__weakref__"), key := Value.str (Str.ofString "__weakref__") 253, val := Value.ref 56 }, { hash := PyData.keyHash P (Str.ofString "__doc__"), key := Value.str (Str.ofString "__doc__") 254, val := Value.none }] 3 })
noncomputable def k55 (P : Params) : Nat × Obj := (55, { cls := Value.type "type", data := Data.cls { name := Str.ofString "CycleError", bases := [Value.type "ValueError"], mro := [Value.ref 55, Value.type "ValueError", Value.type "Exception", Value.type "BaseException", Value.type "object"], ns := 54, qualname := Str.ofString "CycleError" }, slots := #[some (Value.ref 46), none, some (Value.str (Str.ofString "CycleError") 239), some (Value.str (Str.ofString "CycleError") 247), some (Value.builtin "ValueError.__new__"), some (Value.bool true)] })
noncomputable def k56 (P : Params) : Nat × Obj := (56, { cls := Value.type "getset_descriptor", data := Data.fields #[Value.str (Str.ofString "__weakref__") 252, Value.ref 55, Value.builtin "ExceptionGroup.__weakref__", Value.none] })
noncomputable def k66 (P : Params) : Nat × Obj := (66, { cls := Value.type "tuple", data := Data.seq #[Value.none] })
noncomputable def k69 (P : Params) : Nat × Obj := (69, { cls := Value.type "tuple", data := Data.seq #[Value.str (Str.ofString "self") 272, Value.str (Str.ofString "graph") 273, Value.str (Str.ofString "node") 274, Value.str (Str.ofString "predecessors") 275] })
noncomputable def k72 (P : Params) : Nat × Obj := (72, { cls := Value.type "code", data := Data.fields #[Value.str (Str.ofString "__init__") 269, Value.str (Str.ofString "TopologicalSorter.__init__") 270, Value.str (Str.ofString "/claim/cut.py") 271, Value.int 18 0, Value.int 2 0, Value.int 0 0, Value.int 0 0, Value.int 3 0, Value.ref 67, Value.bool true, Value.int 181 0, Value.ref 68, Value.none, Value.ref 69, Value.ref 70, Value.ref 71, Value.int 276 0, Value.int 18 0, Value.str (Str.ofString "/claim/cut.py") 277] })
noncomputable def k73 (P : Params) : Nat × Obj := (73, { cls := Value.type "function", data := Data.func { name := fName (mt 6 0), qualname := Str.ofString "TopologicalSorter.__init__", params := fArgs (mt 6 0), body := FuncBody.stmts (fBody (mt 6 0)), scope := fScope (mt 6 0), globals := 3, closure := [], defaults := Value.ref 66, kwdefaults := Value.none, pyModule := Value.str (Str.ofString "cpy313.graphlib") 194, code := Value.ref 72 } })
noncomputable def k76 (P : Params) : Nat × Obj := (76, { cls := Value.type "tuple", data := Data.seq #[Value.str (Str.ofString "self") 282, Value.str (Str.ofString "node") 283, Value.str (Str.ofString "result") 284] })
noncomputable def k79 (P : Params) : Nat × Obj := (79, { cls := Value.type "code", data := Data.fields #[Value.str (Str.ofString "_get_nodeinfo") 279, Value.str (Str.ofString "TopologicalSorter._get_nodeinfo") 280, Value.str (Str.ofString "/claim/cut.py") 281, Value.int 27 0, Value.int 2 0, Value.int 0 0, Value.int 0 0, Value.int 3 0, Value.ref 74, Value.bool true, Value.int 181 0, Value.ref 75, Value.none, Value.ref 76, Value.ref 77, Value.ref 78, Value.int 285 0, Value.int 27 0, Value.str (Str.ofString "/claim/cut.py") 286] })
noncomputable def k80 (P : Params) : Nat × Obj := (80, { cls := Value.type "function", data := Data.func { name := fName (mt 6 1), qualname := Str.ofString "TopologicalSorter._get_nodeinfo", params := fArgs (mt 6 1), body := FuncBody.stmts (fBody (mt 6 1)), scope := fScope (mt 6 1), globals := 3, closure := [], defaults := Value.none, kwdefaults := Value.none, pyModule := Value.str (Str.ofString "cpy313.graphlib") 194, code := Value.ref 79 } })
noncomputable def k83 (P : Params) : Nat × Obj := (83, { cls := Value.type "tuple", data := Data.seq #[Value.str (Str.ofString "self") 291, Value.str (Str.ofString "node") 292, Value.str (Str.ofString "predecessors") 293, Value.str (Str.ofString "nodeinfo") 294, Value.str (Str.ofString "pred") 295, Value.str (Str.ofString "pred_info") 296] })
noncomputable def k86 (P : Params) : Nat × Obj := (86, { cls := Value.type "code", data := Data.fields #[Value.str (Str.ofString "add") 288, Value.str (Str.ofString "TopologicalSorter.add") 289, Value.str (Str.ofString "/claim/cut.py") 290, Value.int 32 0, Value.int 2 0, Value.int 0 0, Value.int 0 0, Value.int 7 0, Value.ref 81, Value.bool true, Value.int 181 0, Value.ref 82, Value.none, Value.ref 83, Value.ref 84, Value.ref 85, Value.int 297 0, Value.int 32 0, Value.str (Str.ofString "/claim/cut.py") 298] })
noncomputable def k87 (P : Params) : Nat × Obj := (87, { cls := Value.type "function", data := Data.func { name := fName (mt 6 2), qualname := Str.ofString "TopologicalSorter.add", params := fArgs (mt 6 2), body := FuncBody.stmts (fBody (mt 6 2)), scope := fScope (mt 6 2), globals := 3, closure := [], defaults := Value.none, kwdefaults := Value.none, pyModule := Value.str (Str.ofString "cpy313.graphlib") 194, code := Value.ref 86 } })
noncomputable def k91 (P : Params) : Nat × Obj := (91, { cls := Value.type "code", data := Data.fields #[Value.str (Str.ofString "prepare") 300, Value.str (Str.ofString "TopologicalSorter.prepare") 301, Value.str (Str.ofString "/claim/cut.py") 302, Value.int 41 0, Value.int 1 0, Value.int 0 0, Value.int 0 0, Value.int 3 0, Value.ref 88, Value.bool true, Value.int 181 0, Value.ref 89, Value.none, Value.none, Value.none, Value.ref 90, Value.int 303 0, Value.int 41 0, Value.str (Str.ofString "/claim/cut.py") 304] })
noncomputable def k92 (P : Params) : Nat × Obj := (92, { cls := Value.type "function", data := Data.func { name := fName (mt 6 3), qualname := Str.ofString "TopologicalSorter.prepare", params := fArgs (mt 6 3), body := FuncBody.stmts (fBody (mt 6 3)), scope := fScope (mt 6 3), globals := 3, closure := [], defaults := Value.none, kwdefaults := Value.none, pyModule := Value.str (Str.ofString "cpy313.graphlib") 194, code := Value.ref 91 } })
noncomputable def k95 (P : Params) : Nat × Obj := (95, { cls := Value.type "tuple", data := Data.seq #[Value.str (Str.ofString "self") 309, Value.str (Str.ofString "result") 310, Value.str (Str.ofString "n2i") 311, Value.str (Str.ofString "node") 312] })
noncomputable def k98 (P : Params) : Nat × Obj := (98, { cls := Value.type "code", data := Data.fields #[Value.str (Str.ofString "get_ready") 306, Value.str (Str.ofString "TopologicalSorter.get_ready") 307, Value.str (Str.ofString "/claim/cut.py") 308, Value.int 49 0, Value.int 1 0, Value.int 0 0, Value.int 0 0, Value.int 3 0, Value.ref 93, Value.bool true, Value.int 181 0, Value.ref 94, Value.none, Value.ref 95, Value.ref 96, Value.ref 97, Value.int 313 0, Value.int 49 0, Value.str (Str.ofString "/claim/cut.py") 314] })
noncomputable def k99 (P : Params) : Nat × Obj := (99, { cls := Value.type "function", data := Data.func { name := fName (mt 6 4), qualname := Str.ofString "TopologicalSorter.get_ready", params := fArgs (mt 6 4), body := FuncBody.stmts (fBody (mt 6 4)), scope := fScope (mt 6 4), globals := 3, closure := [], defaults := Value.none, kwdefaults := Value.none, pyModule := Value.str (Str.ofString "cpy313.graphlib") 194, code := Value.ref 98 } })
noncomputable def k102 (P : Params) : Nat × Obj := (102, { cls := Value.type "tuple", data := Data.seq #[Value.str (Str.ofString "self") 319] })
noncomputable def k105 (P : Params) : Nat × Obj := (105, { cls := Value.type "code", data := Data.fields #[Value.str (Str.ofString "is_active") 316, Value.str (Str.ofString "TopologicalSorter.is_active") 317, Value.str (Str.ofString "/claim/cut.py") 318, Value.int 60 0, Value.int 1 0, Value.int 0 0, Value.int 0 0, Value.int 3 0, Value.ref 100, Value.bool true, Value.int 181 0, Value.ref 101, Value.none, Value.ref 102, Value.ref 103, Value.ref 104, Value.int 320 0, Value.int 60 0, Value.str (Str.ofString "/claim/cut.py") 321] })
noncomputable def k106 (P : Params) : Nat × Obj := (106, { cls := Value.type "function", data := Data.func { name := fName (mt 6 5), qualname := Str.ofString "TopologicalSorter.is_active", params := fArgs (mt 6 5), body := FuncBody.stmts (fBody (mt 6 5)), scope := fScope (mt 6 5), globals := 3, closure := [], defaults := Value.none, kwdefaults := Value.none, pyModule := Value.str (Str.ofString "cpy313.graphlib") 194, code := Value.ref 105 } })
noncomputable def k109 (P : Params) : Nat × Obj := (109, { cls := Value.type "tuple", data := Data.seq #[Value.str (Str.ofString "self") 326] })
noncomputable def k112 (P : Params) : Nat × Obj := (112, { cls := Value.type "code", data := Data.fields #[Value.str (Str.ofString "__bool__") 323, Value.str (Str.ofString "TopologicalSorter.__bool__") 324, Value.str (Str.ofString "/claim/cut.py") 325, Value.int 65 0, Value.int 1 0, Value.int 0 0, Value.int 0 0, Value.int 3 0, Value.ref 107, Value.bool true, Value.int 181 0, Value.ref 108, Value.none, Value.ref 109, Value.ref 110, Value.ref 111, Value.int 327 0, Value.int 65 0, Value.str (Str.ofString "/claim/cut.py") 328] })
noncomputable def k113 (P : Params) : Nat × Obj := (113, { cls := Value.type "function", data := Data.func { name := fName (mt 6 6), qualname := Str.ofString "TopologicalSorter.__bool__", params := fArgs (mt 6 6), body := FuncBody.stmts (fBody (mt 6 6)), scope := fScope (mt 6 6), globals := 3, closure := [], defaults := Value.none, kwdefaults := Value.none, pyModule := Value.str (Str.ofString "cpy313.graphlib") 194, code := Value.ref 112 } })
noncomputable def k116 (P : Params) : Nat × Obj := (116, { cls := Value.type "tuple", data := Data.seq #[Value.str (Str.ofString "self") 333, Value.str (Str.ofString "nodes") 334, Value.str (Str.ofString "n2i") 335, Value.str (Str.ofString "node") 336, Value.str (Str.ofString "nodeinfo") 337, Value.str (Str.ofString "stat") 338, Value.str (Str.ofString "successor") 339, Value.str (Str.ofString "successor_info") 340] })
noncomputable def k119 (P : Params) : Nat × Obj := (119, { cls := Value.type "code", data := Data.fields #[Value.str (Str.ofString "done") 330, Value.str (Str.ofString "TopologicalSorter.done") 331, Value.str (Str.ofString "/claim/cut.py") 332, Value.int 68 0, Value.int 1 0, Value.int 0 0, Value.int 0 0, Value.int 7 0, Value.ref 114, Value.bool true, Value.int 181 0, Value.ref 115, Value.none, Value.ref 116, Value.ref 117, Value.ref 118, Value.int 341 0, Value.int 68 0, Value.str (Str.ofString "/claim/cut.py") 342] })
noncomputable def k120 (P : Params) : Nat × Obj := (120, { cls := Value.type "function", data := Data.func { name := fName (mt 6 7), qualname := Str.ofString "TopologicalSorter.done", params := fArgs (mt 6 7), body := FuncBody.stmts (fBody (mt 6 7)), scope := fScope (mt 6 7), globals := 3, closure := [], defaults := Value.none, kwdefaults := Value.none, pyModule := Value.str (Str.ofString "cpy313.graphlib") 194, code := Value.ref 119 } })
noncomputable def k123 (P : Params) : Nat × Obj := (123, { cls := Value.type "tuple", data := Data.seq #[Value.str (Str.ofString "self") 347, Value.str (Str.ofString "n2i") 348, Value.str (Str.ofString "stack") 349, Value.str (Str.ofString "itstack") 350, Value.str (Str.ofString "seen") 351, Value.str (Str.ofString "node2stacki") 352, Value.str (Str.ofString "node") 353] })
noncomputable def k126 (P : Params) : Nat × Obj := (126, { cls := Value.type "code", data := Data.fields #[Value.str (Str.ofString "_find_cycle") 344, Value.str (Str.ofString "TopologicalSorter._find_cycle") 345, Value.str (Str.ofString "/claim/cut.py") 346, Value.int 91 0, Value.int 1 0, Value.int 0 0, Value.int 0 0, Value.int 3 0, Value.ref 121, Value.bool true, Value.int 181 0, Value.ref 122, Value.none, Value.ref 123, Value.ref 124, Value.ref 125, Value.int 354 0, Value.int 91 0, Value.str (Str.ofString "/claim/cut.py") 355] })
noncomputable def k127 (P : Params) : Nat × Obj := (127, { cls := Value.type "function", data := Data.func { name := fName (mt 6 8), qualname := Str.ofString "TopologicalSorter._find_cycle", params := fArgs (mt 6 8), body := FuncBody.stmts (fBody (mt 6 8)), scope := fScope (mt 6 8), globals := 3, closure := [], defaults := Value.none, kwdefaults := Value.none, pyModule := Value.str (Str.ofString "cpy313.graphlib") 194, code := Value.ref 126 } })
noncomputable def k130 (P : Params) : Nat × Obj := (130, { cls := Value.type "tuple", data := Data.seq #[Value.str (Str.ofString "self") 360] })
noncomputable def k133 (P : Params) : Nat × Obj := (133, { cls := Value.type "code", data := Data.fields #[Value.str (Str.ofString "static_order") 357, Value.str (Str.ofString "TopologicalSorter.static_order") 358, Value.str (Str.ofString "/claim/cut.py") 359, Value.int 120 0, Value.int 1 0, Value.int 0 0, Value.int 0 0, Value.int 3 0, Value.ref 128, Value.bool true, Value.int 181 0, Value.ref 129, Value.none, Value.ref 130, Value.ref 131, Value.ref 132, Value.int 361 0, Value.int 120 0, Value.str (Str.ofString "/claim/cut.py") 362] })
noncomputable def k134 (P : Params) : Nat × Obj := (134, { cls := Value.type "function", data := Data.func { name := fName (mt 6 9), qualname := Str.ofString "TopologicalSorter.static_order", params := fArgs (mt 6 9), body := FuncBody.stmts (fBody (mt 6 9)), scope := fScope (mt 6 9), globals := 3, closure := [], defaults := Value.none, kwdefaults := Value.none, pyModule := Value.str (Str.ofString "cpy313.graphlib") 194, code := Value.ref 133 } })
noncomputable def k135 (P : Params) : Nat × Obj := (135, { cls := Value.type "tuple", data := Data.seq #[Value.str (Str.ofString "_nfinished") 364, Value.str (Str.ofString "_node2info") 365, Value.str (Str.ofString "_npassedout") 366, Value.str (Str.ofString "_ready_nodes") 367] })
noncomputable def k136 (P : Params) : Nat × Obj := (136, { cls := Value.type "dict", data := Data.dict #[{ hash := PyData.keyHash P (Str.ofString "__module__"), key := Value.str (Str.ofString "__module__") 264, val := Value.str (Str.ofString "cpy313.graphlib") 194 }, { hash := PyData.keyHash P (Str.ofString "__firstlineno__"), key := Value.str (Str.ofString "__firstlineno__") 268, val := Value.int 16 267 }, { hash := PyData.keyHash P (Str.ofString "__init__"), key := Value.str (Str.ofString "__init__") 278, val := Value.ref 73 }, { hash := PyData.keyHash P (Str.ofString "_get_nodeinfo"), key := Value.str (Str.ofString "_get_nodeinfo") 287, val := Value.ref 80 }, { hash := PyData.keyHash P (Str.ofString "add"), key := Value.str (Str.ofString "add") 299, val := Value.ref 87 }, { hash := PyData.keyHash P (Str.ofString "prepare"), key := Value.str (Str.ofString "prepare") 305, val := Value.ref 92 }, { hash := PyData.keyHash P (Str.ofString "get_ready"), key := Value.str (Str.ofString "get_ready") 315, val := Value.ref 99 }, { hash := PyData.keyHash P (Str.ofString "is_active"), key := Value.str (Str.ofString "is_active") 322, val := Value.ref 106 }, { hash := PyData.keyHash P (Str.ofString "__bool__"), key := Value.str (Str.ofString "__bool__") 329, val := Value.ref 113 }, { hash := PyData.keyHash P (Str.ofString "done"), key := Value.str (Str.ofString "done") 343, val := Value.ref 120 }, { hash := PyData.keyHash P (Str.ofString "_find_cycle"), key := Value.str (Str.ofString "_find_cycle") 356, val := Value.ref 127 }, { hash := PyData.keyHash P (Str.ofString "static_order"), key := Value.str (Str.ofString "static_order") 363, val := Value.ref 134 }, { hash := PyData.keyHash P (Str.ofString "__static_attributes__"), key := Value.str (Str.ofString "__static_attributes__") 368, val := Value.ref 135 }, { hash := PyData.keyHash P (Str.ofString "__dict__"), key := Value.str (Str.ofString "__dict__") 370, val := Value.ref 138 }, { hash := PyData.keyHash P (Str.ofString "__weakref__"), key := Value.str (Str.ofString "__weakref__") 372, val := Value.ref 139 }, { hash := PyData.keyHash P (Str.ofString "__doc__"), key := Value.str (Str.ofString "__doc__") 373, val := Value.none }] 4 })
noncomputable def k137 (P : Params) : Nat × Obj := (137, { cls := Value.type "type", data := Data.cls { name := Str.ofString "TopologicalSorter", bases := [Value.type "object"], mro := [Value.ref 137, Value.type "object"], ns := 136, qualname := Str.ofString "TopologicalSorter" }, slots := #[none, none, some (Value.str (Str.ofString "TopologicalSorter") 257), some (Value.str (Str.ofString "TopologicalSorter") 265), some (Value.builtin "object.__new__"), some (Value.bool true)] })
noncomputable def k138 (P : Params) : Nat × Obj := (138, { cls := Value.type "getset_descriptor", data := Data.fields #[Value.str (Str.ofString "__dict__") 369, Value.ref 137, Value.builtin "function.__dict__", Value.builtin "function.__dict__#set"] })
noncomputable def k139 (P : Params) : Nat × Obj := (139, { cls := Value.type "getset_descriptor", data := Data.fields #[Value.str (Str.ofString "__weakref__") 371, Value.ref 137, Value.builtin "ExceptionGroup.__weakref__", Value.none] })
noncomputable def k144 (P : Params) : Nat × Obj := (144, { cls := Value.type "tuple", data := Data.seq #[Value.str (Str.ofString "cells") 381, Value.str (Str.ofString "size") 382, Value.str (Str.ofString "steps") 383, Value.str (Str.ofString "cell") 384, Value.str (Str.ofString "first") 385, Value.str (Str.ofString "second") 386] })
noncomputable def k147 (P : Params) : Nat × Obj := (147, { cls := Value.type "code", data := Data.fields #[Value.str (Str.ofString "_law_steps") 378, Value.str (Str.ofString "_law_steps") 379, Value.str (Str.ofString "/claim/cut.py") 380, Value.int 123 0, Value.int 2 0, Value.int 0 0, Value.int 0 0, Value.int 3 0, Value.ref 142, Value.bool true, Value.int 181 0, Value.ref 143, Value.none, Value.ref 144, Value.ref 145, Value.ref 146, Value.int 387 0, Value.int 123 0, Value.str (Str.ofString "/claim/cut.py") 388] })
noncomputable def k148 (P : Params) : Nat × Obj := (148, { cls := Value.type "function", data := Data.func { name := fName (tp 8), qualname := Str.ofString "_law_steps", params := fArgs (tp 8), body := FuncBody.stmts (fBody (tp 8)), scope := fScope (tp 8), globals := 3, closure := [], defaults := Value.none, kwdefaults := Value.none, pyModule := Value.str (Str.ofString "law_dm0130_12") 376, code := Value.ref 147 } })
noncomputable def k151 (P : Params) : Nat × Obj := (151, { cls := Value.type "tuple", data := Data.seq #[Value.str (Str.ofString "steps") 393, Value.str (Str.ofString "size") 394, Value.str (Str.ofString "sorter") 395, Value.str (Str.ofString "name") 396, Value.str (Str.ofString "first") 397, Value.str (Str.ofString "second") 398] })
noncomputable def k154 (P : Params) : Nat × Obj := (154, { cls := Value.type "code", data := Data.fields #[Value.str (Str.ofString "_law_told") 390, Value.str (Str.ofString "_law_told") 391, Value.str (Str.ofString "/claim/cut.py") 392, Value.int 132 0, Value.int 2 0, Value.int 0 0, Value.int 0 0, Value.int 3 0, Value.ref 149, Value.bool true, Value.int 181 0, Value.ref 150, Value.none, Value.ref 151, Value.ref 152, Value.ref 153, Value.int 399 0, Value.int 132 0, Value.str (Str.ofString "/claim/cut.py") 400] })
noncomputable def k155 (P : Params) : Nat × Obj := (155, { cls := Value.type "function", data := Data.func { name := fName (tp 9), qualname := Str.ofString "_law_told", params := fArgs (tp 9), body := FuncBody.stmts (fBody (tp 9)), scope := fScope (tp 9), globals := 3, closure := [], defaults := Value.none, kwdefaults := Value.none, pyModule := Value.str (Str.ofString "law_dm0130_12") 376, code := Value.ref 154 } })
noncomputable def k158 (P : Params) : Nat × Obj := (158, { cls := Value.type "tuple", data := Data.seq #[Value.str (Str.ofString "book") 405, Value.str (Str.ofString "one") 406, Value.str (Str.ofString "other") 407, Value.str (Str.ofString "name") 408] })
noncomputable def k161 (P : Params) : Nat × Obj := (161, { cls := Value.type "code", data := Data.fields #[Value.str (Str.ofString "_law_link") 402, Value.str (Str.ofString "_law_link") 403, Value.str (Str.ofString "/claim/cut.py") 404, Value.int 143 0, Value.int 3 0, Value.int 0 0, Value.int 0 0, Value.int 3 0, Value.ref 156, Value.bool true, Value.int 181 0, Value.ref 157, Value.none, Value.ref 158, Value.ref 159, Value.ref 160, Value.int 409 0, Value.int 143 0, Value.str (Str.ofString "/claim/cut.py") 410] })
noncomputable def k162 (P : Params) : Nat × Obj := (162, { cls := Value.type "function", data := Data.func { name := fName (tp 10), qualname := Str.ofString "_law_link", params := fArgs (tp 10), body := FuncBody.stmts (fBody (tp 10)), scope := fScope (tp 10), globals := 3, closure := [], defaults := Value.none, kwdefaults := Value.none, pyModule := Value.str (Str.ofString "law_dm0130_12") 376, code := Value.ref 161 } })
noncomputable def k166 (P : Params) : Nat × Obj := (166, { cls := Value.type "code", data := Data.fields #[Value.str (Str.ofString "law") 412, Value.str (Str.ofString "law") 413, Value.str (Str.ofString "/claim/cut.py") 414, Value.int 150 0, Value.int 1 0, Value.int 0 0, Value.int 0 0, Value.int 3 0, Value.ref 163, Value.bool true, Value.int 181 0, Value.ref 164, Value.none, Value.none, Value.none, Value.ref 165, Value.int 415 0, Value.int 150 0, Value.str (Str.ofString "/claim/cut.py") 416] })
noncomputable def k167 (P : Params) : Nat × Obj := (167, { cls := Value.type "function", data := Data.func { name := fName (tp 11), qualname := Str.ofString "law", params := fArgs (tp 11), body := FuncBody.stmts (fBody (tp 11)), scope := fScope (tp 11), globals := 3, closure := [], defaults := Value.none, kwdefaults := Value.none, pyModule := Value.str (Str.ofString "law_dm0130_12") 376, code := Value.ref 166 } })
noncomputable def KK (P : Params) : Frag := [k3 P, k17 P, k20 P, k21 P, k29 P, k32 P, k35 P, k36 P, k37 P, k39 P, k40 P, k41 P, k42 P, k43 P, k46 P, k54 P, k55 P, k56 P, k66 P, k69 P, k72 P, k73 P, k76 P, k79 P, k80 P, k83 P, k86 P, k87 P, k91 P, k92 P, k95 P, k98 P, k99 P, k102 P, k105 P, k106 P, k109 P, k112 P, k113 P, k116 P, k119 P, k120 P, k123 P, k126 P, k127 P, k130 P, k133 P, k134 P, k135 P, k136 P, k137 P, k138 P, k139 P, k144 P, k147 P, k148 P, k151 P, k154 P, k155 P, k158 P, k161 P, k162 P, k166 P, k167 P]
noncomputable def KA : List Addr := [3, 17, 20, 21, 29, 32, 35, 36, 37, 39, 40, 41, 42, 43, 46, 54, 55, 56, 66, 69, 72, 73, 76, 79, 80, 83, 86, 87, 91, 92, 95, 98, 99, 102, 105, 106, 109, 112, 113, 116, 119, 120, 123, 126, 127, 130, 133, 134, 135, 136, 137, 138, 139, 144, 147, 148, 151, 154, 155, 158, 161, 162, 166, 167]
noncomputable def dropAt : List Nat → Nat → List Stmt → List Stmt
  | _, _, [] => []
  | ds, i, s :: l => if ds.contains i then dropAt ds (i + 1) l else s :: dropAt ds (i + 1) l
noncomputable def vw : Program := { Challenge.pw_dm0130_12 with main := { Challenge.pw_dm0130_12.main with body := dropAt [1, 7] 0 Challenge.pw_dm0130_12.main.body } }
end
section
theorem sim_record {P : PC} (hK : P.K = KK P.w.params) (hP : POk P) (hF : ∀ x ∈ freeNames, freeName P x) (hS : P.cS = 137) (hN : P.cN = 40) (hE : P.cE = 55) : FSim P 36 0 fp_record := by
  refine fsim_of (fd := _) (D := D_record) (by rw [hK]; with_unfolding_all rfl) (by rw [hK]; kernel_rfl) ?_ (by decide) ?_
  · exact (sim_seq (sim_assign (sim_name (i := 1) rfl) (sim_aAttrN hP (sim_name (i := 0) rfl))) (sim_seq (sim_assign sim_cint (sim_aAttrN hP (sim_name (i := 0) rfl))) (sim_one (sim_assign (sim_list sim_nil) (sim_aAttrN hP (sim_name (i := 0) rfl))))))
  · intro us s h _
    match us, h with
    | [a0, a1], _ => exact BindsTo.of_eq (by with_unfolding_all rfl)
theorem cls_record {P : PC} (hK : P.K = KK P.w.params) (hP : POk P) (hF : ∀ x ∈ freeNames, freeName P x) (hS : P.cS = 137) (hN : P.cN = 40) (hE : P.cE = 55) : ClsOk P P.cN 36 0 fp_record := by
  have hf := sim_record hK hP hF hS hN hE
  constructor <;> first | exact hf | ((try rw [hK]) <;> (try rw [hN]) <;> kernel_rfl)
theorem sim_sorter {P : PC} (hK : P.K = KK P.w.params) (hP : POk P) (hF : ∀ x ∈ freeNames, freeName P x) (hS : P.cS = 137) (hN : P.cN = 40) (hE : P.cE = 55) : FSim P 73 0 fp_sorter := by
  refine fsim_dflt (fd := _) (D := D_sorter) (by rw [hK]; with_unfolding_all rfl) (by rw [hK]; kernel_rfl) ?_ (by decide) ?_
  · exact (sim_seq (sim_assign sim_dict0 (sim_aAttrS hP (sim_name (i := 0) rfl))) (sim_seq (sim_assign sim_cnone (sim_aAttrS hP (sim_name (i := 0) rfl))) (sim_seq (sim_assign sim_cint (sim_aAttrS hP (sim_name (i := 0) rfl))) (sim_seq (sim_assign sim_cint (sim_aAttrS hP (sim_name (i := 0) rfl))) (sim_one (sim_sif (sim_tCmp (sim_name (i := 1) rfl) sim_cnone (fun F O a b u v ha hb => op_isNotN ha hb)) (sim_ssdead _) sim_snil))))))
  · intro us s h X
    rw [hK] at X
    match us, h with
    | [a0], _ => exact kp_binds X (by intro S; with_unfolding_all rfl)
theorem cls_sorter {P : PC} (hK : P.K = KK P.w.params) (hP : POk P) (hF : ∀ x ∈ freeNames, freeName P x) (hS : P.cS = 137) (hN : P.cN = 40) (hE : P.cE = 55) : ClsOk P P.cS 73 0 fp_sorter := by
  have hf := sim_sorter hK hP hF hS hN hE
  constructor <;> first | exact hf | ((try rw [hK]) <;> (try rw [hS]) <;> kernel_rfl)
theorem sim_get_nodeinfo {P : PC} (hK : P.K = KK P.w.params) (hP : POk P) (hF : ∀ x ∈ freeNames, freeName P x) (hS : P.cS = 137) (hN : P.cN = 40) (hE : P.cE = 55) : FSim P 80 1 fp_get_nodeinfo := by
  refine fsim_of (fd := _) (D := D_get_nodeinfo) (by rw [hK]; with_unfolding_all rfl) (by rw [hK]; kernel_rfl) ?_ (by decide) ?_
  · exact (sim_seq (sim_sif (sim_tCmp (sim_wal (sim_bm PySem.F.plainAttrs_dict PySem.F.slot_dict_get PySem.F.type_dict_get (sim_attrS hP (sim_name (i := 0) rfl)) (sim_arCons (sim_cons (sim_name (i := 1) rfl) sim_nil)) fun F O ov vs u us hu hr => op_get ov vs u us hu hr) (sim_aName (i := 2) rfl)) sim_cnone (fun F O a b u v ha hb => op_isN ha hb)) (sim_one (sim_assign2 (sim_newN (cls_record hK hP hF hS hN hE) (by decide) (by rw [hK, hN]; kernel_rfl) (sim_arCons (sim_cons (sim_name (i := 1) rfl) sim_nil)) (by decide)) (sim_aItem (sim_attrS hP (sim_name (i := 0) rfl)) (sim_name (i := 1) rfl)) (sim_aName (i := 2) rfl))) sim_snil) (sim_one (sim_ret (sim_name (i := 2) rfl))))
  · intro us s h _
    match us, h with
    | [a0, a1], _ => exact BindsTo.of_eq (by with_unfolding_all rfl)
theorem meth_get_nodeinfo {P : PC} (hK : P.K = KK P.w.params) (hS : P.cS = 137) : MethOk P "_get_nodeinfo" 80 := by
  constructor <;> (try rw [hK]) <;> (try rw [hS]) <;> first | (with_reducible (show _ ≠ _); decide) | kernel_rfl
theorem sim_add {P : PC} (hK : P.K = KK P.w.params) (hP : POk P) (hF : ∀ x ∈ freeNames, freeName P x) (hS : P.cS = 137) (hN : P.cN = 40) (hE : P.cE = 55) : FSim P 87 2 fp_add := by
  refine fsim_ofS (fd := _) (D := D_add) (by rw [hK]; with_unfolding_all rfl) (by rw [hK]; kernel_rfl) ?_ (by decide) ?_
  · exact (sim_seq (sim_sif (sim_tCmp (sim_attrS hP (sim_name (i := 0) rfl)) sim_cnone (fun F O a b u v ha hb => op_isNotN ha hb)) (sim_ssdead _) sim_snil) (sim_seq (sim_assign (sim_meth (meth_get_nodeinfo hK hS) (sim_get_nodeinfo hK hP hF hS hN hE) (sim_name (i := 0) rfl) (sim_arCons (sim_cons (sim_name (i := 1) rfl) sim_nil)) (by decide)) (sim_aName (i := 3) rfl)) (sim_seq (sim_augN hP (sim_name (i := 3) rfl) (sim_bi (by decide) (hF _ (by decide)) (by decide +kernel) (sim_cons (sim_name (i := 2) rfl) sim_nil) (fun F O vs us hr => op_len vs us hr)) (fun F O a b u v ha hb => in_add ha hb)) (sim_one (sim_for (sim_iSeq (sim_name (i := 2) rfl)) (sim_aName (i := 4) rfl) (sim_seq (sim_assign (sim_meth (meth_get_nodeinfo hK hS) (sim_get_nodeinfo hK hP hF hS hN hE) (sim_name (i := 0) rfl) (sim_arCons (sim_cons (sim_name (i := 4) rfl) sim_nil)) (by decide)) (sim_aName (i := 5) rfl)) (sim_one (sim_expr (sim_bm PySem.F.plainAttrs_list PySem.F.slot_list_append PySem.F.type_list_append (sim_attrN hP (sim_name (i := 5) rfl)) (sim_arCons (sim_cons (sim_name (i := 1) rfl) sim_nil)) fun F O ov vs u us hu hr => op_append ov vs u us hu hr)))))))))
  · intro us s A Q E h1 h2 _ hq
    match us, h1 with
    | [a0, a1], _ => exact bind_tuple (rest := []) (f := (fun t => [("self", a0), ("node", a1), ("predecessors", t)])) (by with_unfolding_all rfl) (by simp) hq
    | a0 :: a1 :: c :: rest, _ => exact bind_tuple (rest := c :: rest) (f := (fun t => [("self", a0), ("node", a1), ("predecessors", t)])) (by with_unfolding_all rfl) (by simp at h2 ⊢; (first | lia | omega)) hq
theorem meth_add {P : PC} (hK : P.K = KK P.w.params) (hS : P.cS = 137) : MethOk P "add" 87 := by
  constructor <;> (try rw [hK]) <;> (try rw [hS]) <;> first | (with_reducible (show _ ≠ _); decide) | kernel_rfl
theorem sim_find_cycle {P : PC} (hK : P.K = KK P.w.params) (hP : POk P) (hF : ∀ x ∈ freeNames, freeName P x) (hS : P.cS = 137) (hN : P.cN = 40) (hE : P.cE = 55) : FSim P 127 0 fp_find_cycle := by
  refine fsim_of (fd := _) (D := D_find_cycle) (by rw [hK]; with_unfolding_all rfl) (by rw [hK]; kernel_rfl) ?_ (by decide) ?_
  · exact (sim_seq (sim_assign (sim_attrS hP (sim_name (i := 0) rfl)) (sim_aName (i := 1) rfl)) (sim_seq (sim_assign (sim_list sim_nil) (sim_aName (i := 2) rfl)) (sim_seq (sim_assign (sim_list sim_nil) (sim_aName (i := 3) rfl)) (sim_seq (sim_assign (sim_set0 (by decide) (hF _ (by decide)) (by decide +kernel)) (sim_aName (i := 4) rfl)) (sim_seq (sim_assign sim_dict0 (sim_aName (i := 5) rfl)) (sim_seq (sim_for (sim_iSeq (sim_name (i := 1) rfl)) (sim_aName (i := 6) rfl) (sim_seq (sim_sif (sim_tCmp (sim_name (i := 6) rfl) (sim_name (i := 4) rfl) (fun F O a b u v ha hb => op_in ha hb)) (sim_one sim_continue) sim_snil) (sim_one (sim_while (sim_tOf sim_cbool) (sim_seq (sim_sif (sim_tCmp (sim_name (i := 6) rfl) (sim_name (i := 4) rfl) (fun F O a b u v ha hb => op_in ha hb)) (sim_one (sim_sif (sim_tCmp (sim_name (i := 6) rfl) (sim_name (i := 5) rfl) (fun F O a b u v ha hb => op_in ha hb)) (sim_one (sim_ret (sim_bin (sim_slice (sim_name (i := 2) rfl) (sim_oSome (sim_item (sim_name (i := 5) rfl) (sim_name (i := 6) rfl))) sim_oNone) (sim_list (sim_cons (sim_name (i := 6) rfl) sim_nil)) (fun F O a b u v ha hb => op_add O ha hb)))) sim_snil)) (sim_seq (sim_expr (sim_bm PySem.F.plainAttrs_set PySem.F.slot_set_add PySem.F.type_set_add (sim_name (i := 4) rfl) (sim_arCons (sim_cons (sim_name (i := 6) rfl) sim_nil)) fun F O ov vs u us hu hr => op_setAdd ov vs u us hu hr)) (sim_seq (sim_expr (sim_bm PySem.F.plainAttrs_list PySem.F.slot_list_append PySem.F.type_list_append (sim_name (i := 3) rfl) (sim_arCons (sim_cons (sim_iterNext (by decide) (hF _ (by decide)) boot_iter rfl (sim_cons (sim_attrN hP (sim_item (sim_name (i := 1) rfl) (sim_name (i := 6) rfl))) sim_nil)) sim_nil)) fun F O ov vs u us hu hr => op_append ov vs u us hu hr)) (sim_seq (sim_assign (sim_bi (by decide) (hF _ (by decide)) (by decide +kernel) (sim_cons (sim_name (i := 2) rfl) sim_nil) (fun F O vs us hr => op_len vs us hr)) (sim_aItem (sim_name (i := 5) rfl) (sim_name (i := 6) rfl))) (sim_one (sim_expr (sim_bm PySem.F.plainAttrs_list PySem.F.slot_list_append PySem.F.type_list_append (sim_name (i := 2) rfl) (sim_arCons (sim_cons (sim_name (i := 6) rfl) sim_nil)) fun F O ov vs u us hu hr => op_append ov vs u us hu hr))))))) (sim_one (sim_while (sim_tOf (sim_name (i := 2) rfl)) (sim_one (sim_try (sim_seq (sim_assign (sim_nextCall (sim_item (sim_name (i := 3) rfl) (sim_un sim_cint fun F O a u ha => op_neg ha))) (sim_aName (i := 6) rfl)) (sim_one sim_break)) sim_snil (sim_seq (sim_del (sim_name (i := 5) rfl) (sim_bm PySem.F.plainAttrs_list PySem.F.slot_list_pop PySem.F.type_list_pop (sim_name (i := 2) rfl) sim_arNil fun F O ov vs u us hu hr => op_pop ov vs u us hu hr)) (sim_one (sim_expr (sim_bm PySem.F.plainAttrs_list PySem.F.slot_list_pop PySem.F.type_list_pop (sim_name (i := 3) rfl) sim_arNil fun F O ov vs u us hu hr => op_pop ov vs u us hu hr)))) (classOf_bi (v := .type "StopIteration") (by decide) (hF _ (by decide)) (by decide +kernel)) (by rw [hK]; simp only [exCls]; kernel_rfl))) (sim_one sim_break)))) sim_snil)))) (sim_one (sim_ret sim_cnone))))))))
  · intro us s h _
    match us, h with
    | [a0], _ => exact BindsTo.of_eq (by with_unfolding_all rfl)
theorem meth_find_cycle {P : PC} (hK : P.K = KK P.w.params) (hS : P.cS = 137) : MethOk P "_find_cycle" 127 := by
  constructor <;> (try rw [hK]) <;> (try rw [hS]) <;> first | (with_reducible (show _ ≠ _); decide) | kernel_rfl
theorem sim_prepare {P : PC} (hK : P.K = KK P.w.params) (hP : POk P) (hF : ∀ x ∈ freeNames, freeName P x) (hS : P.cS = 137) (hN : P.cN = 40) (hE : P.cE = 55) : FSim P 92 1 fp_prepare := by
  refine fsim_of (fd := _) (D := D_prepare) (by rw [hK]; with_unfolding_all rfl) (by rw [hK]; kernel_rfl) ?_ (by decide) ?_
  · exact (sim_seq (sim_sif (sim_tCmp (sim_attrS hP (sim_name (i := 0) rfl)) sim_cnone (fun F O a b u v ha hb => op_isNotN ha hb)) (sim_ssdead _) sim_snil) (sim_seq (sim_assign (sim_comp1 (D' := D_prepare_c1) (m := [none]) (ts := (some (tOf (pBin opEq (pUn (opAttrN 1) (pName 0)) (pInt 0))))) (by kernel_rfl) (sim_iVals (sim_attrS hP (sim_name (i := 0) rfl))) (sim_aName (i := 0) rfl) (sim_tCmp (sim_attrN hP (sim_name (i := 0) rfl)) sim_cint (fun F O a b u v ha hb => op_eq O ha hb)) (sim_attrN hP (sim_name (i := 0) rfl))) (sim_aAttrS hP (sim_name (i := 0) rfl))) (sim_seq (sim_assign (sim_meth (meth_find_cycle hK hS) (sim_find_cycle hK hP hF hS hN hE) (sim_name (i := 0) rfl) sim_arNil (by decide)) (sim_aName (i := 1) rfl)) (sim_one (sim_sif (sim_tOf (sim_name (i := 1) rfl)) (sim_one (sim_raiseOwn (by decide) (by rw [hK, hE]; kernel_rfl) (by rw [hK, hE]; kernel_rfl) PySem.F.excBase_ValueError (by decide +kernel) PySem.F.excBase_ValueError (sim_vcons sim_vfstr (sim_vcons (sim_vof (sim_name (i := 1) rfl)) sim_vnil)))) sim_snil)))))
  · intro us s h _
    match us, h with
    | [a0], _ => exact BindsTo.of_eq (by with_unfolding_all rfl)
theorem meth_prepare {P : PC} (hK : P.K = KK P.w.params) (hS : P.cS = 137) : MethOk P "prepare" 92 := by
  constructor <;> (try rw [hK]) <;> (try rw [hS]) <;> first | (with_reducible (show _ ≠ _); decide) | kernel_rfl
theorem sim_get_ready {P : PC} (hK : P.K = KK P.w.params) (hP : POk P) (hF : ∀ x ∈ freeNames, freeName P x) (hS : P.cS = 137) (hN : P.cN = 40) (hE : P.cE = 55) : FSim P 99 0 fp_get_ready := by
  refine fsim_of (fd := _) (D := D_get_ready) (by rw [hK]; with_unfolding_all rfl) (by rw [hK]; kernel_rfl) ?_ (by decide) ?_
  · exact (sim_seq (sim_sif (sim_tCmp (sim_attrS hP (sim_name (i := 0) rfl)) sim_cnone (fun F O a b u v ha hb => op_isN ha hb)) (sim_ssdead _) sim_snil) (sim_seq (sim_assign (sim_ty (by decide) (hF _ (by decide)) (by decide +kernel) (sim_cons (sim_attrS hP (sim_name (i := 0) rfl)) sim_nil) (fun F O vs us hr => op_tuple vs us hr)) (sim_aName (i := 1) rfl)) (sim_seq (sim_assign (sim_attrS hP (sim_name (i := 0) rfl)) (sim_aName (i := 2) rfl)) (sim_seq (sim_for (sim_iSeq (sim_name (i := 1) rfl)) (sim_aName (i := 3) rfl) (sim_one (sim_assign (sim_gconst (by decide) (by rw [hK]; with_unfolding_all rfl)) (sim_aAttrN hP (sim_item (sim_name (i := 2) rfl) (sim_name (i := 3) rfl)))))) (sim_seq (sim_expr (sim_bm PySem.F.plainAttrs_list PySem.F.slot_list_clear PySem.F.type_list_clear (sim_attrS hP (sim_name (i := 0) rfl)) sim_arNil fun F O ov vs u us hu hr => op_clear ov vs u us hu hr)) (sim_seq (sim_augS hP (sim_name (i := 0) rfl) (sim_bi (by decide) (hF _ (by decide)) (by decide +kernel) (sim_cons (sim_name (i := 1) rfl) sim_nil) (fun F O vs us hr => op_len vs us hr)) (fun F O a b u v ha hb => in_add ha hb)) (sim_one (sim_ret (sim_name (i := 1) rfl)))))))))
  · intro us s h _
    match us, h with
    | [a0], _ => exact BindsTo.of_eq (by with_unfolding_all rfl)
theorem meth_get_ready {P : PC} (hK : P.K = KK P.w.params) (hS : P.cS = 137) : MethOk P "get_ready" 99 := by
  constructor <;> (try rw [hK]) <;> (try rw [hS]) <;> first | (with_reducible (show _ ≠ _); decide) | kernel_rfl
theorem sim_done {P : PC} (hK : P.K = KK P.w.params) (hP : POk P) (hF : ∀ x ∈ freeNames, freeName P x) (hS : P.cS = 137) (hN : P.cN = 40) (hE : P.cE = 55) : FSim P 120 0 fp_done := by
  refine fsim_ofS (fd := _) (D := D_done) (by rw [hK]; with_unfolding_all rfl) (by rw [hK]; kernel_rfl) ?_ (by decide) ?_
  · exact (sim_seq (sim_sif (sim_tCmp (sim_attrS hP (sim_name (i := 0) rfl)) sim_cnone (fun F O a b u v ha hb => op_isN ha hb)) (sim_ssdead _) sim_snil) (sim_seq (sim_assign (sim_attrS hP (sim_name (i := 0) rfl)) (sim_aName (i := 2) rfl)) (sim_one (sim_for (sim_iSeq (sim_name (i := 1) rfl)) (sim_aName (i := 3) rfl) (sim_seq (sim_sif (sim_tCmp (sim_wal (sim_bm PySem.F.plainAttrs_dict PySem.F.slot_dict_get PySem.F.type_dict_get (sim_name (i := 2) rfl) (sim_arCons (sim_cons (sim_name (i := 3) rfl) sim_nil)) fun F O ov vs u us hu hr => op_get ov vs u us hu hr) (sim_aName (i := 4) rfl)) sim_cnone (fun F O a b u v ha hb => op_isN ha hb)) (sim_ssdead _) sim_snil) (sim_seq (sim_assign (sim_attrN hP (sim_name (i := 4) rfl)) (sim_aName (i := 5) rfl)) (sim_seq (sim_sif (sim_tCmp (sim_name (i := 5) rfl) (sim_gconst (by decide) (by rw [hK]; with_unfolding_all rfl)) (fun F O a b u v ha hb => op_ne O ha hb)) (sim_one (sim_sif (sim_tCmp (sim_name (i := 5) rfl) sim_cint (fun F O a b u v ha hb => op_ge ha hb)) (sim_ssdead _) (sim_one (sim_sif (sim_tCmp (sim_name (i := 5) rfl) (sim_gconst (by decide) (by rw [hK]; with_unfolding_all rfl)) (fun F O a b u v ha hb => op_eq O ha hb)) (sim_ssdead _) (sim_ssdead _))))) sim_snil) (sim_seq (sim_assign (sim_gconst (by decide) (by rw [hK]; with_unfolding_all rfl)) (sim_aAttrN hP (sim_name (i := 4) rfl))) (sim_seq (sim_for (sim_iSeq (sim_attrN hP (sim_name (i := 4) rfl))) (sim_aName (i := 6) rfl) (sim_seq (sim_assign (sim_item (sim_name (i := 2) rfl) (sim_name (i := 6) rfl)) (sim_aName (i := 7) rfl)) (sim_seq (sim_augN hP (sim_name (i := 7) rfl) sim_cint (fun F O a b u v ha hb => in_sub ha hb)) (sim_one (sim_sif (sim_tCmp (sim_attrN hP (sim_name (i := 7) rfl)) sim_cint (fun F O a b u v ha hb => op_eq O ha hb)) (sim_one (sim_expr (sim_bm PySem.F.plainAttrs_list PySem.F.slot_list_append PySem.F.type_list_append (sim_attrS hP (sim_name (i := 0) rfl)) (sim_arCons (sim_cons (sim_name (i := 6) rfl) sim_nil)) fun F O ov vs u us hu hr => op_append ov vs u us hu hr))) sim_snil))))) (sim_one (sim_augS hP (sim_name (i := 0) rfl) sim_cint (fun F O a b u v ha hb => in_add ha hb))))))))))))
  · intro us s A Q E h1 h2 _ hq
    match us, h1 with
    | [a0], _ => exact bind_tuple (rest := []) (f := (fun t => [("self", a0), ("nodes", t)])) (by with_unfolding_all rfl) (by simp) hq
    | a0 :: c :: rest, _ => exact bind_tuple (rest := c :: rest) (f := (fun t => [("self", a0), ("nodes", t)])) (by with_unfolding_all rfl) (by simp at h2 ⊢; (first | lia | omega)) hq
theorem meth_done {P : PC} (hK : P.K = KK P.w.params) (hS : P.cS = 137) : MethOk P "done" 120 := by
  constructor <;> (try rw [hK]) <;> (try rw [hS]) <;> first | (with_reducible (show _ ≠ _); decide) | kernel_rfl
theorem sim_steps {P : PC} (hK : P.K = KK P.w.params) (hP : POk P) (hF : ∀ x ∈ freeNames, freeName P x) (hS : P.cS = 137) (hN : P.cN = 40) (hE : P.cE = 55) : FSim P 148 0 fp_steps := by
  refine fsim_of (fd := _) (D := D_steps) (by rw [hK]; with_unfolding_all rfl) (by rw [hK]; kernel_rfl) ?_ (by decide) ?_
  · exact (sim_seq (sim_assign (sim_if (sim_tCmp (sim_name (i := 1) rfl) sim_cint (fun F O a b u v ha hb => op_eq O ha hb)) (sim_list (sim_cons (sim_tuple (sim_cons sim_cint (sim_cons sim_cint sim_nil))) (sim_cons (sim_tuple (sim_cons sim_cint (sim_cons sim_cint sim_nil))) sim_nil))) (sim_list sim_nil)) (sim_aName (i := 2) rfl)) (sim_seq (sim_for (sim_iSeq (sim_name (i := 0) rfl)) (sim_aName (i := 3) rfl) (sim_seq (sim_pair2 (sim_cons (sim_bin (sim_name (i := 3) rfl) (sim_name (i := 1) rfl) (fun F O a b u v ha hb => op_mod ha hb)) (sim_cons (sim_bin (sim_bin (sim_name (i := 3) rfl) (sim_name (i := 1) rfl) (fun F O a b u v ha hb => op_div ha hb)) (sim_name (i := 1) rfl) (fun F O a b u v ha hb => op_mod ha hb)) sim_nil)) (i := 4) (j := 5) rfl rfl) (sim_seq (sim_sif (sim_tCmp (sim_bin (sim_bin (sim_bin (sim_name (i := 3) rfl) (sim_name (i := 1) rfl) (fun F O a b u v ha hb => op_div ha hb)) (sim_name (i := 1) rfl) (fun F O a b u v ha hb => op_div ha hb)) sim_cint (fun F O a b u v ha hb => op_mod ha hb)) sim_cint (fun F O a b u v ha hb => op_ne O ha hb)) (sim_one (sim_pair2 (sim_cons (sim_bi (by decide) (hF _ (by decide)) (by decide +kernel) (sim_cons (sim_name (i := 4) rfl) (sim_cons (sim_name (i := 5) rfl) sim_nil)) (fun F O vs us hr => op_min O rfl vs us hr)) (sim_cons (sim_bi (by decide) (hF _ (by decide)) (by decide +kernel) (sim_cons (sim_name (i := 4) rfl) (sim_cons (sim_name (i := 5) rfl) sim_nil)) (fun F O vs us hr => op_max O rfl vs us hr)) sim_nil)) (i := 4) (j := 5) rfl rfl)) sim_snil) (sim_one (sim_sif (sim_tOr (sim_tCmp (sim_name (i := 4) rfl) (sim_name (i := 5) rfl) (fun F O a b u v ha hb => op_ne O ha hb)) (sim_tCmp (sim_bin (sim_bin (sim_bin (sim_name (i := 3) rfl) (sim_name (i := 1) rfl) (fun F O a b u v ha hb => op_div ha hb)) (sim_name (i := 1) rfl) (fun F O a b u v ha hb => op_div ha hb)) sim_cint (fun F O a b u v ha hb => op_mod ha hb)) sim_cint (fun F O a b u v ha hb => op_eq O ha hb))) (sim_one (sim_expr (sim_bm PySem.F.plainAttrs_list PySem.F.slot_list_append PySem.F.type_list_append (sim_name (i := 2) rfl) (sim_arCons (sim_cons (sim_tuple (sim_cons (sim_name (i := 4) rfl) (sim_cons (sim_name (i := 5) rfl) sim_nil))) sim_nil)) fun F O ov vs u us hu hr => op_append ov vs u us hu hr))) sim_snil))))) (sim_one (sim_ret (sim_name (i := 2) rfl)))))
  · intro us s h _
    match us, h with
    | [a0, a1], _ => exact BindsTo.of_eq (by with_unfolding_all rfl)
theorem sim_told {P : PC} (hK : P.K = KK P.w.params) (hP : POk P) (hF : ∀ x ∈ freeNames, freeName P x) (hS : P.cS = 137) (hN : P.cN = 40) (hE : P.cE = 55) : FSim P 155 3 fp_told := by
  refine fsim_of (fd := _) (D := D_told) (by rw [hK]; with_unfolding_all rfl) (by rw [hK]; kernel_rfl) ?_ (by decide) ?_
  · exact (sim_seq (sim_assign (sim_newS (cls_sorter hK hP hF hS hN hE) (by decide) (by rw [hK, hS]; kernel_rfl) sim_arNil (by decide)) (sim_aName (i := 2) rfl)) (sim_seq (sim_for (sim_iRange (by decide) (hF _ (by decide)) boot_range (sim_cons (sim_name (i := 1) rfl) sim_nil)) (sim_aName (i := 3) rfl) (sim_one (sim_expr (sim_meth (meth_add hK hS) (sim_add hK hP hF hS hN hE) (sim_name (i := 2) rfl) (sim_arCons (sim_cons (sim_name (i := 3) rfl) sim_nil)) (by decide))))) (sim_seq (sim_for (sim_iSeq (sim_name (i := 0) rfl)) (sim_aTuple (is := [4, 5]) ⟨⟨_, rfl, rfl⟩, ⟨_, rfl, rfl⟩, trivial⟩) (sim_one (sim_expr (sim_meth (meth_add hK hS) (sim_add hK hP hF hS hN hE) (sim_name (i := 2) rfl) (sim_arCons (sim_cons (sim_name (i := 5) rfl) (sim_cons (sim_name (i := 4) rfl) sim_nil))) (by decide))))) (sim_seq (sim_try (sim_one (sim_expr (sim_meth (meth_prepare hK hS) (sim_prepare hK hP hF hS hN hE) (sim_name (i := 2) rfl) sim_arNil (by decide)))) sim_snil (sim_one (sim_ret (sim_tuple (sim_cons (sim_name (i := 2) rfl) (sim_cons sim_cbool sim_nil))))) (classOf_glob (v := .ref P.cE) (by decide) (by rw [hK, hE]; kernel_rfl)) (by rw [hK]; simp only [exCls, hE]; kernel_rfl)) (sim_one (sim_ret (sim_tuple (sim_cons (sim_name (i := 2) rfl) (sim_cons sim_cbool sim_nil)))))))))
  · intro us s h _
    match us, h with
    | [a0, a1], _ => exact BindsTo.of_eq (by with_unfolding_all rfl)
theorem sim_link {P : PC} (hK : P.K = KK P.w.params) (hP : POk P) (hF : ∀ x ∈ freeNames, freeName P x) (hS : P.cS = 137) (hN : P.cN = 40) (hE : P.cE = 55) : FSim P 162 1 fp_link := by
  refine fsim_of (fd := _) (D := D_link) (by rw [hK]; with_unfolding_all rfl) (by rw [hK]; kernel_rfl) ?_ (by decide) ?_
  · exact (sim_seq (sim_for (sim_iSeq (sim_tuple (sim_cons (sim_name (i := 1) rfl) (sim_cons (sim_name (i := 2) rfl) sim_nil)))) (sim_aName (i := 3) rfl) (sim_one (sim_sif (sim_tCmp (sim_name (i := 3) rfl) (sim_name (i := 0) rfl) (fun F O a b u v ha hb => op_notIn ha hb)) (sim_one (sim_assign (sim_newN (cls_record hK hP hF hS hN hE) (by decide) (by rw [hK, hN]; kernel_rfl) (sim_arCons (sim_cons (sim_name (i := 3) rfl) sim_nil)) (by decide)) (sim_aItem (sim_name (i := 0) rfl) (sim_name (i := 3) rfl)))) sim_snil))) (sim_one (sim_sif (sim_tCmp (sim_name (i := 1) rfl) (sim_name (i := 2) rfl) (fun F O a b u v ha hb => op_ne O ha hb)) (sim_seq (sim_expr (sim_bm PySem.F.plainAttrs_list PySem.F.slot_list_append PySem.F.type_list_append (sim_attrN hP (sim_item (sim_name (i := 0) rfl) (sim_name (i := 1) rfl))) (sim_arCons (sim_cons (sim_name (i := 2) rfl) sim_nil)) fun F O ov vs u us hu hr => op_append ov vs u us hu hr)) (sim_one (sim_augN hP (sim_item (sim_name (i := 0) rfl) (sim_name (i := 2) rfl)) sim_cint (fun F O a b u v ha hb => in_add ha hb)))) sim_snil)))
  · intro us s h _
    match us, h with
    | [a0, a1, a2], _ => exact BindsTo.of_eq (by with_unfolding_all rfl)
theorem ent_law (P : PC) (hK : P.K = KK P.w.params) (hP : POk P) (hF : ∀ x ∈ freeNames, freeName P x) (hS : P.cS = 137) (hN : P.cN = 40) (hE : P.cE = 55) : ∃ fd, fdAt? P.K 167 = some fd ∧ fnOkB P.K fd D_law = true ∧ SimSs P D_law (bodyOf fd) pt_law ∧ ∀ (l : Addr) (s : Shared), BindsTo s fd ⟨[.ref l], []⟩ ((D_law.vars.map (·.1)).zip [.ref l]) := by
  refine ⟨_, (by rw [hK]; with_unfolding_all rfl), (by rw [hK]; kernel_rfl), ?_, fun l s => BindsTo.of_eq (by with_unfolding_all rfl)⟩
  exact (sim_seq (sim_assign (sim_list (sim_cons sim_cint (sim_cons sim_cint (sim_cons sim_cint (sim_cons sim_cint (sim_cons sim_cint (sim_cons sim_cint sim_nil))))))) (sim_aName (i := 1) rfl)) (sim_seq (sim_for (sim_iRange (by decide) (hF _ (by decide)) boot_range (sim_cons (sim_bi (by decide) (hF _ (by decide)) (by decide +kernel) (sim_cons (sim_name (i := 0) rfl) sim_nil) (fun F O vs us hr => op_len vs us hr)) sim_nil)) (sim_aName (i := 2) rfl) (sim_one (sim_augItem (sim_name (i := 1) rfl) (sim_bin (sim_name (i := 2) rfl) sim_cint (fun F O a b u v ha hb => op_mod ha hb)) (sim_item (sim_name (i := 0) rfl) (sim_name (i := 2) rfl)) (fun F O a b u v ha hb => in_add ha hb)))) (sim_seq (sim_assign (sim_bin sim_cint (sim_bin (sim_bin (sim_bi (by decide) (hF _ (by decide)) (by decide +kernel) (sim_cons (sim_name (i := 0) rfl) sim_nil) (fun F O vs us hr => op_sum O rfl vs us hr)) sim_cint (fun F O a b u v ha hb => op_add O ha hb)) sim_cint (fun F O a b u v ha hb => op_mod ha hb)) (fun F O a b u v ha hb => op_add O ha hb)) (sim_aName (i := 3) rfl)) (sim_seq (sim_assign (sim_call (sim_steps hK hP hF hS hN hE) (by decide) (by rw [hK]; kernel_rfl) (by rw [hK]; kernel_rfl) (sim_arCons (sim_cons (sim_name (i := 1) rfl) (sim_cons (sim_name (i := 3) rfl) sim_nil))) (by decide)) (sim_aName (i := 4) rfl)) (sim_seq (sim_assign (sim_bin (sim_list (sim_cons sim_cint sim_nil)) (sim_name (i := 3) rfl) (fun F O a b u v ha hb => op_mul O ha hb)) (sim_aName (i := 5) rfl)) (sim_seq (sim_for (sim_iRange (by decide) (hF _ (by decide)) boot_range (sim_cons (sim_name (i := 3) rfl) sim_nil)) (sim_aName (i := 6) rfl) (sim_one (sim_for (sim_iSeq (sim_name (i := 4) rfl)) (sim_aTuple (is := [7, 8]) ⟨⟨_, rfl, rfl⟩, ⟨_, rfl, rfl⟩, trivial⟩) (sim_one (sim_assign (sim_bin (sim_bin (sim_item (sim_name (i := 5) rfl) (sim_name (i := 8) rfl)) (sim_item (sim_name (i := 5) rfl) (sim_name (i := 7) rfl)) (fun F O a b u v ha hb => op_or ha hb)) (sim_bin sim_cint (sim_name (i := 7) rfl) (fun F O a b u v ha hb => op_pow ha hb)) (fun F O a b u v ha hb => op_or ha hb)) (sim_aItem (sim_name (i := 5) rfl) (sim_name (i := 8) rfl))))))) (sim_seq (sim_asgComp1 (D' := D_law_c1) (m := [none, some 5]) (ts := (some (tOf (pBin opAnd (pBin opShr (pBin opItem (pName 1) (pName 0)) (pName 0)) (pInt 1))))) (by kernel_rfl) (sim_iRange (by decide) (hF _ (by decide)) boot_range (sim_cons (sim_name (i := 3) rfl) sim_nil)) (sim_aName (i := 0) rfl) (sim_tOf (sim_bin (sim_bin (sim_item (sim_name (i := 1) rfl) (sim_name (i := 0) rfl)) (sim_name (i := 0) rfl) (fun F O a b u v ha hb => op_shr ha hb)) sim_cint (fun F O a b u v ha hb => op_and ha hb))) (sim_name (i := 0) rfl) (sim_aName (i := 9) rfl)) (sim_seq (sim_asgComp1 (D' := D_law_c2) (m := [none, some 9, some 5]) (ts := (some (tAnd (tOf (pBin opNotIn (pName 0) (pName 1))) (tOf (pBin opEq (pComp [none, some 2, some 0] (iSeq (pName 1)) (aName 0) (cTest (some (tOf (pBin opAnd (pBin opShr (pBin opItem (pName 1) (pName 2)) (pName 0)) (pInt 1)))) (cEmit (pName 0)))) (pList lNil)))))) (by kernel_rfl) (sim_iRange (by decide) (hF _ (by decide)) boot_range (sim_cons (sim_name (i := 3) rfl) sim_nil)) (sim_aName (i := 0) rfl) (sim_tAnd (sim_tCmp (sim_name (i := 0) rfl) (sim_name (i := 1) rfl) (fun F O a b u v ha hb => op_notIn ha hb)) (sim_tCmp (sim_comp1 (D' := D_law_c2_c3) (m := [none, some 2, some 0]) (ts := (some (tOf (pBin opAnd (pBin opShr (pBin opItem (pName 1) (pName 2)) (pName 0)) (pInt 1))))) (by kernel_rfl) (sim_iSeq (sim_name (i := 1) rfl)) (sim_aName (i := 0) rfl) (sim_tOf (sim_bin (sim_bin (sim_item (sim_name (i := 1) rfl) (sim_name (i := 2) rfl)) (sim_name (i := 0) rfl) (fun F O a b u v ha hb => op_shr ha hb)) sim_cint (fun F O a b u v ha hb => op_and ha hb))) (sim_name (i := 0) rfl)) (sim_list sim_nil) (fun F O a b u v ha hb => op_eq O ha hb))) (sim_name (i := 0) rfl) (sim_aName (i := 10) rfl)) (sim_seq (sim_pair2 (sim_cons (sim_newS (cls_sorter hK hP hF hS hN hE) (by decide) (by rw [hK, hS]; kernel_rfl) sim_arNil (by decide)) (sim_cons (sim_newS (cls_sorter hK hP hF hS hN hE) (by decide) (by rw [hK, hS]; kernel_rfl) sim_arNil (by decide)) sim_nil)) (i := 11) (j := 12) rfl rfl) (sim_seq (sim_assign (sim_attrS hP (sim_name (i := 11) rfl)) (sim_aName (i := 13) rfl)) (sim_seq (sim_expr (sim_call (sim_link hK hP hF hS hN hE) (by decide) (by rw [hK]; kernel_rfl) (by rw [hK]; kernel_rfl) (sim_arCons (sim_cons (sim_name (i := 13) rfl) (sim_cons sim_cint (sim_cons sim_cint sim_nil)))) (by decide))) (sim_seq (sim_asgComp1 (D' := D_law_c4) (m := [none]) (ts := none) (by kernel_rfl) (sim_iRange (by decide) (hF _ (by decide)) boot_range (sim_cons (sim_bin (sim_name (i := 3) rfl) sim_cint (fun F O a b u v ha hb => op_add O ha hb)) sim_nil)) (sim_aName (i := 0) rfl) trivial (sim_list sim_nil) (sim_aName (i := 14) rfl)) (sim_seq (sim_for (sim_iRange (by decide) (hF _ (by decide)) boot_range (sim_cons (sim_bin sim_cint (sim_name (i := 3) rfl) (fun F O a b u v ha hb => op_pow ha hb)) sim_nil)) (sim_aName (i := 15) rfl) (sim_seq (sim_asgComp1 (D' := D_law_c5) (m := [none, some 15]) (ts := (some (tOf (pBin opAnd (pBin opShr (pName 1) (pName 0)) (pInt 1))))) (by kernel_rfl) (sim_iRange (by decide) (hF _ (by decide)) boot_range (sim_cons (sim_name (i := 3) rfl) sim_nil)) (sim_aName (i := 0) rfl) (sim_tOf (sim_bin (sim_bin (sim_name (i := 1) rfl) (sim_name (i := 0) rfl) (fun F O a b u v ha hb => op_shr ha hb)) sim_cint (fun F O a b u v ha hb => op_and ha hb))) (sim_name (i := 0) rfl) (sim_aName (i := 16) rfl)) (sim_seq (sim_sif (sim_tCmp (sim_comp1 (D' := D_law_c6) (m := [none, some 10, some 5, some 15]) (ts := (some (tOr (tOf (pBin opNotIn (pName 0) (pName 1))) (tOf (pBin opNe (pBin opOr (pBin opItem (pName 2) (pName 0)) (pName 3)) (pName 3)))))) (by kernel_rfl) (sim_iSeq (sim_name (i := 16) rfl)) (sim_aName (i := 0) rfl) (sim_tOr (sim_tCmp (sim_name (i := 0) rfl) (sim_name (i := 1) rfl) (fun F O a b u v ha hb => op_notIn ha hb)) (sim_tCmp (sim_bin (sim_item (sim_name (i := 2) rfl) (sim_name (i := 0) rfl)) (sim_name (i := 3) rfl) (fun F O a b u v ha hb => op_or ha hb)) (sim_name (i := 3) rfl) (fun F O a b u v ha hb => op_ne O ha hb))) (sim_name (i := 0) rfl)) (sim_list sim_nil) (fun F O a b u v ha hb => op_eq O ha hb)) (sim_one (sim_expr (sim_bm PySem.F.plainAttrs_list PySem.F.slot_list_append PySem.F.type_list_append (sim_item (sim_name (i := 14) rfl) (sim_bi (by decide) (hF _ (by decide)) (by decide +kernel) (sim_cons (sim_name (i := 16) rfl) sim_nil) (fun F O vs us hr => op_len vs us hr))) (sim_arCons (sim_cons (sim_name (i := 15) rfl) sim_nil)) fun F O ov vs u us hu hr => op_append ov vs u us hu hr))) sim_snil) (sim_one (sim_sif (sim_tCmp (sim_name (i := 15) rfl) (sim_name (i := 13) rfl) (fun F O a b u v ha hb => op_in ha hb)) (sim_one (sim_for (sim_iRange (by decide) (hF _ (by decide)) boot_range (sim_cons (sim_name (i := 3) rfl) sim_nil)) (sim_aName (i := 17) rfl) (sim_one (sim_sif (sim_tAnd (sim_tCmp (sim_name (i := 17) rfl) (sim_name (i := 16) rfl) (fun F O a b u v ha hb => op_notIn ha hb)) (sim_tCmp (sim_comp1 (D' := D_law_c7) (m := [none, none, some 17, some 16]) (ts := (some (tAnd (tOf (pBin opEq (pName 1) (pName 2))) (tOf (pBin opNotIn (pName 0) (pName 3)))))) (by kernel_rfl) (sim_iSeq (sim_name (i := 4) rfl)) (sim_aTuple (is := [0, 1]) ⟨⟨_, rfl, rfl⟩, ⟨_, rfl, rfl⟩, trivial⟩) (sim_tAnd (sim_tCmp (sim_name (i := 1) rfl) (sim_name (i := 2) rfl) (fun F O a b u v ha hb => op_eq O ha hb)) (sim_tCmp (sim_name (i := 0) rfl) (sim_name (i := 3) rfl) (fun F O a b u v ha hb => op_notIn ha hb))) (sim_name (i := 0) rfl)) (sim_list sim_nil) (fun F O a b u v ha hb => op_eq O ha hb))) (sim_one (sim_expr (sim_call (sim_link hK hP hF hS hN hE) (by decide) (by rw [hK]; kernel_rfl) (by rw [hK]; kernel_rfl) (sim_arCons (sim_cons (sim_name (i := 13) rfl) (sim_cons (sim_name (i := 15) rfl) (sim_cons (sim_bin (sim_name (i := 15) rfl) (sim_bin sim_cint (sim_name (i := 17) rfl) (fun F O a b u v ha hb => op_pow ha hb)) (fun F O a b u v ha hb => op_add O ha hb)) sim_nil)))) (by decide)))) sim_snil)))) sim_snil))))) (sim_seq (sim_asgComp1 (D' := D_law_c8) (m := [none, some 13]) (ts := (some (tOf (pBin opEq (pUn (opAttrN 1) (pBin opItem (pName 1) (pName 0))) (pInt 1))))) (by kernel_rfl) (sim_iSeq (sim_name (i := 13) rfl)) (sim_aName (i := 0) rfl) (sim_tCmp (sim_attrN hP (sim_item (sim_name (i := 1) rfl) (sim_name (i := 0) rfl))) sim_cint (fun F O a b u v ha hb => op_eq O ha hb)) (sim_name (i := 0) rfl) (sim_aName (i := 18) rfl)) (sim_seq (sim_sif (sim_tCmp (sim_bi (by decide) (hF _ (by decide)) (by decide +kernel) (sim_cons (sim_name (i := 18) rfl) sim_nil) (fun F O vs us hr => op_sorted vs us hr)) (sim_bi (by decide) (hF _ (by decide)) (by decide +kernel) (sim_cons (sim_comp1 (D' := D_law_c9) (m := [none, some 5]) (ts := none) (by kernel_rfl) (sim_iSeq (sim_name (i := 10) rfl)) (sim_aName (i := 0) rfl) trivial (sim_bin (sim_item (sim_name (i := 1) rfl) (sim_name (i := 0) rfl)) (sim_bin sim_cint (sim_name (i := 0) rfl) (fun F O a b u v ha hb => op_pow ha hb)) (fun F O a b u v ha hb => op_add O ha hb))) sim_nil) (fun F O vs us hr => op_sorted vs us hr)) (fun F O a b u v ha hb => op_ne O ha hb)) (sim_one (sim_ret sim_cbool)) sim_snil) (sim_seq (sim_for (sim_iSeq (sim_name (i := 18) rfl)) (sim_aName (i := 19) rfl) (sim_one (sim_for (sim_iSeq (sim_name (i := 18) rfl)) (sim_aName (i := 20) rfl) (sim_one (sim_sif (sim_tCmp (sim_bin (sim_name (i := 19) rfl) (sim_name (i := 20) rfl) (fun F O a b u v ha hb => op_or ha hb)) (sim_name (i := 20) rfl) (fun F O a b u v ha hb => op_eq O ha hb)) (sim_one (sim_expr (sim_call (sim_link hK hP hF hS hN hE) (by decide) (by rw [hK]; kernel_rfl) (by rw [hK]; kernel_rfl) (sim_arCons (sim_cons (sim_attrS hP (sim_name (i := 12) rfl)) (sim_cons (sim_name (i := 19) rfl) (sim_cons (sim_name (i := 20) rfl) sim_nil)))) (by decide)))) sim_snil))))) (sim_seq (sim_assign (sim_call (sim_told hK hP hF hS hN hE) (by decide) (by rw [hK]; kernel_rfl) (by rw [hK]; kernel_rfl) (sim_arCons (sim_cons (sim_name (i := 4) rfl) (sim_cons (sim_name (i := 3) rfl) sim_nil))) (by decide)) (sim_aTuple (is := [21, 22]) ⟨⟨_, rfl, rfl⟩, ⟨_, rfl, rfl⟩, trivial⟩)) (sim_seq (sim_sif (sim_tCmp (sim_name (i := 22) rfl) (sim_cmp (sim_name (i := 9) rfl) (sim_list sim_nil) (fun F O a b u v ha hb => op_ne O ha hb)) (fun F O a b u v ha hb => op_ne O ha hb)) (sim_one (sim_ret sim_cbool)) sim_snil) (sim_seq (sim_pair2 (sim_cons sim_cint (sim_cons (sim_list sim_nil) sim_nil)) (i := 15) (j := 23) rfl rfl) (sim_seq (sim_for (sim_iRange (by decide) (hF _ (by decide)) boot_range (sim_cons (sim_bin (sim_name (i := 3) rfl) sim_cint (fun F O a b u v ha hb => op_add O ha hb)) sim_nil)) (sim_aName (i := 6) rfl) (sim_seq (sim_expr (sim_bm PySem.F.plainAttrs_list PySem.F.slot_list_extend PySem.F.type_list_extend (sim_name (i := 23) rfl) (sim_arCons (sim_cons (sim_meth (meth_get_ready hK hS) (sim_get_ready hK hP hF hS hN hE) (sim_name (i := 21) rfl) sim_arNil (by decide)) sim_nil)) fun F O ov vs u us hu hr => op_extend ov vs u us hu hr)) (sim_seq (sim_sif (sim_tCmp (sim_bi (by decide) (hF _ (by decide)) (by decide +kernel) (sim_cons (sim_attrN hP (sim_item (sim_name (i := 13) rfl) (sim_name (i := 15) rfl))) sim_nil) (fun F O vs us hr => op_sorted vs us hr)) (sim_bi (by decide) (hF _ (by decide)) (by decide +kernel) (sim_cons (sim_comp1 (D' := D_law_c10) (m := [none, some 15]) (ts := none) (by kernel_rfl) (sim_iSeq (sim_name (i := 23) rfl)) (sim_aName (i := 0) rfl) trivial (sim_bin (sim_name (i := 1) rfl) (sim_bin sim_cint (sim_name (i := 0) rfl) (fun F O a b u v ha hb => op_pow ha hb)) (fun F O a b u v ha hb => op_add O ha hb))) sim_nil) (fun F O vs us hr => op_sorted vs us hr)) (fun F O a b u v ha hb => op_ne O ha hb)) (sim_one (sim_ret sim_cbool)) sim_snil) (sim_one (sim_sif (sim_tCmp (sim_name (i := 23) rfl) (sim_list sim_nil) (fun F O a b u v ha hb => op_ne O ha hb)) (sim_seq (sim_assign (sim_bm PySem.F.plainAttrs_list PySem.F.slot_list_pop PySem.F.type_list_pop (sim_name (i := 23) rfl) (sim_arCons (sim_cons (sim_bin (sim_item (sim_name (i := 1) rfl) (sim_name (i := 6) rfl)) (sim_bi (by decide) (hF _ (by decide)) (by decide +kernel) (sim_cons (sim_name (i := 23) rfl) sim_nil) (fun F O vs us hr => op_len vs us hr)) (fun F O a b u v ha hb => op_mod ha hb)) sim_nil)) fun F O ov vs u us hu hr => op_pop ov vs u us hu hr) (sim_aName (i := 17) rfl)) (sim_seq (sim_expr (sim_meth (meth_done hK hS) (sim_done hK hP hF hS hN hE) (sim_name (i := 21) rfl) (sim_arCons (sim_cons (sim_name (i := 17) rfl) sim_nil)) (by decide))) (sim_one (sim_augName (i := 15) rfl (sim_bin sim_cint (sim_name (i := 17) rfl) (fun F O a b u v ha hb => op_pow ha hb)) (fun F O a b u v ha hb => in_add ha hb))))) sim_snil))))) (sim_seq (sim_assign (sim_call (sim_told hK hP hF hS hN hE) (by decide) (by rw [hK]; kernel_rfl) (by rw [hK]; kernel_rfl) (sim_arCons (sim_cons (sim_name (i := 4) rfl) (sim_cons (sim_name (i := 3) rfl) sim_nil))) (by decide)) (sim_aTuple (is := [21, 22]) ⟨⟨_, rfl, rfl⟩, ⟨_, rfl, rfl⟩, trivial⟩)) (sim_seq (sim_expr (sim_meth (meth_prepare hK hS) (sim_prepare hK hP hF hS hN hE) (sim_name (i := 11) rfl) sim_arNil (by decide))) (sim_seq (sim_expr (sim_meth (meth_prepare hK hS) (sim_prepare hK hP hF hS hN hE) (sim_name (i := 12) rfl) sim_arNil (by decide))) (sim_seq (sim_for (sim_iSeq (sim_name (i := 14) rfl)) (sim_aName (i := 24) rfl) (sim_seq (sim_pair3 (sim_cons (sim_meth (meth_get_ready hK hS) (sim_get_ready hK hP hF hS hN hE) (sim_name (i := 21) rfl) sim_arNil (by decide)) (sim_cons (sim_meth (meth_get_ready hK hS) (sim_get_ready hK hP hF hS hN hE) (sim_name (i := 11) rfl) sim_arNil (by decide)) (sim_cons (sim_meth (meth_get_ready hK hS) (sim_get_ready hK hP hF hS hN hE) (sim_name (i := 12) rfl) sim_arNil (by decide)) sim_nil))) (i := 25) (j := 26) (l := 27) rfl rfl rfl) (sim_seq (sim_sif (sim_tOr (sim_tCmp (sim_bi (by decide) (hF _ (by decide)) (by decide +kernel) (sim_cons (sim_name (i := 26) rfl) sim_nil) (fun F O vs us hr => op_sorted vs us hr)) (sim_name (i := 24) rfl) (fun F O a b u v ha hb => op_ne O ha hb)) (sim_tCmp (sim_bi (by decide) (hF _ (by decide)) (by decide +kernel) (sim_cons (sim_name (i := 27) rfl) sim_nil) (fun F O vs us hr => op_sorted vs us hr)) (sim_bi (by decide) (hF _ (by decide)) (by decide +kernel) (sim_cons (sim_comp1 (D' := D_law_c11) (m := [none, some 5]) (ts := none) (by kernel_rfl) (sim_iSeq (sim_name (i := 25) rfl)) (sim_aName (i := 0) rfl) trivial (sim_bin (sim_item (sim_name (i := 1) rfl) (sim_name (i := 0) rfl)) (sim_bin sim_cint (sim_name (i := 0) rfl) (fun F O a b u v ha hb => op_pow ha hb)) (fun F O a b u v ha hb => op_add O ha hb))) sim_nil) (fun F O vs us hr => op_sorted vs us hr)) (fun F O a b u v ha hb => op_ne O ha hb))) (sim_one (sim_ret sim_cbool)) sim_snil) (sim_seq (sim_expr (sim_methS hP (meth_done hK hS) (sim_done hK hP hF hS hN hE) (sim_name (i := 21) rfl) (sim_arStar (sim_name (i := 25) rfl)) (by decide))) (sim_seq (sim_expr (sim_methS hP (meth_done hK hS) (sim_done hK hP hF hS hN hE) (sim_name (i := 11) rfl) (sim_arStar (sim_name (i := 26) rfl)) (by decide))) (sim_one (sim_expr (sim_methS hP (meth_done hK hS) (sim_done hK hP hF hS hN hE) (sim_name (i := 12) rfl) (sim_arStar (sim_name (i := 27) rfl)) (by decide))))))))) (sim_one (sim_ret sim_cbool))))))))))))))))))))))))))
end
section
theorem KA_eq (P : Params) : KA = (KK P).map (·.1) := rfl
theorem left12 : LeftO Challenge.rw_dm0130_12.row.prog vw [Str.ofString "_NodeInfo"] (fun s => xlAt vw [] s && recOk Challenge.rw_dm0130_12.row.records s) (kHook KK KA KA_eq).obs (kHook KK KA KA_eq).val 2504 := by
  intro w
  kernel_rfl
end
section
section
variable {n : Nat} {lo : Loc} {h0 h1 hb hp : AH} {l : Addr} {vs : List AV} {st : List (Int × Int)} {a b c : Int}
noncomputable def stTail : SP := (sIf (tOr (tOf (pBin opNe (pName 4) (pName 5))) (tOf (pBin opEq (pBin opMod (pBin opDiv (pBin opDiv (pName 3) (pName 1)) (pName 1)) (pInt 4)) (pInt 3)))) (sExpr (pBm "list" opAppend (pName 2) (lCons (pTuple (lCons (pName 4) (lCons (pName 5) lNil))) lNil))) sNil)
/-- steps that are being told in a new list -/
structure StO (n : Nat) (h0 h1 hb hp : AH) (l : Addr) (i : Nat) : Prop where
  g : Gr h0 h1 hb hp
  n1 : h1 l = none
  nb : hb l = none
  x : ∃ st vs, hp l = some (.list vs) ∧ All2 VII st vs hb ∧ (∀ p ∈ st, p.1 ∈ keysN n ∧ p.2 ∈ keysN n) ∧ st.length ≤ i + 2
theorem StO.gr {i : Nat} {hb' hp' : AH} (S : StO n h0 h1 hb hp l i) (g : Gr hb hp hb' hp') : StO n h0 h1 hb' hp' l i := by
  obtain ⟨st, vs, h1, h2, h3⟩ := S.x
  obtain ⟨k1, k2⟩ := g.keep h1 S.nb
  exact ⟨S.g.trans g, S.n1, k2, st, vs, k1, h2.ext g.b, h3⟩
theorem st_tail {i : Nat} {Q : Fl → St → Prop} {E : Ex → St → Prop} (hn : 0 < n) (hn2 : n < 1000) (S : StO n h0 h1 hb hp l i) (hi : i < 1000) (ka : a ∈ keysN n) (kb : b ∈ keysN n)
    (l1 : lo 1 = some (.int n)) (l2 : lo 2 = some (.ref l)) (l3 : lo 3 = some (.int c)) (l4 : lo 4 = some (.int a)) (l5 : lo 5 = some (.int b))
    (k : ∀ hb' hp', Ext hb hb' → StO n h0 h1 hb' hp' l (i + 1) → Q .next ⟨lo, hp'⟩) : stTail Q E ⟨lo, hp⟩ := by
  refine s_if (hb := hb) (zt_or (zt_bool (z_ne (z_nameI l4) (z_nameI l5))) fun _ => zt_bool (z_eq (z_mod (z_div (z_div (z_nameI l3) (z_nameI l1) (by (first | lia | omega)) (by (first | lia | omega))) (z_nameI l1) (by (first | lia | omega)) (by (first | lia | omega))) z_int (by (first | lia | omega))) z_int)) S.g.s (fun _ hb1 hp1 g => ?_) fun _ hb1 hp1 g => ?_
  · obtain ⟨st, vs, hl, hs, hk, hlen⟩ := (S.gr g).x
    refine s_append l2 hl (by rw [hs.len]; (first | lia | omega)) (z_pair (z_nameI l4) (z_nameI l5)) g.s fun hb2 hp2 v g2 hv => ?_
    have S2 := (S.gr g).gr g2
    have h1 : All2 VII [(a, b)] [v] hb2 := ⟨hv, trivial⟩
    refine k hb2 _ (g.b.trans g2.b) ⟨S2.g.mut S2.n1 S2.nb, S2.n1, S2.nb, st ++ [(a, b)], vs ++ [v], upd_self .., h1.append (hs.ext g2.b), fun p hp => ?_, ?_⟩
    · rcases List.mem_append.mp hp with h | h
      · exact hk p h
      · rw [List.mem_singleton.mp h]; exact ⟨ka, kb⟩
    · rw [List.length_append, List.length_singleton]; (first | lia | omega)
  · obtain ⟨g1, n1, nb, st, vs, hl, hs, hk, hlen⟩ := S.gr g
    exact k hb1 hp1 g.b ⟨g1, n1, nb, st, vs, hl, hs, hk, by (first | lia | omega)⟩
noncomputable def stLoop : SP := (sFor (iSeq (pName 0)) (aName 3) (sSeq (sPair (lCons (pBin opMod (pName 3) (pName 1)) (lCons (pBin opMod (pBin opDiv (pName 3) (pName 1)) (pName 1)) lNil)) [4, 5]) (sSeq (sIf (tOf (pBin opNe (pBin opMod (pBin opDiv (pBin opDiv (pName 3) (pName 1)) (pName 1)) (pInt 4)) (pInt 3))) (sPair (lCons (pBi opMin2 (lCons (pName 4) (lCons (pName 5) lNil))) (lCons (pBi opMax2 (lCons (pName 4) (lCons (pName 5) lNil))) lNil)) [4, 5]) sNil) stTail)))
theorem st_eq : pt_steps = (sSeq (sAssign (pIf (tOf (pBin opEq (pName 1) (pInt 5))) (pList (lCons (pTuple (lCons (pInt 0) (lCons (pInt 1) lNil))) (lCons (pTuple (lCons (pInt 2) (lCons (pInt 3) lNil))) lNil))) (pList lNil)) (aName 2)) (sSeq stLoop (sRet (pName 2)))) := rfl
theorem st_loop {Q : Fl → St → Prop} {E : Ex → St → Prop} {lc : Addr} {cells : List Int} (hn : 0 < n) (hn2 : n < 1000) (hc : hb lc = some (.list (intsA cells))) (hcl : cells.length < 100) (S : StO n h0 h1 hb hp l 0) (l0 : lo 0 = some (.ref lc)) (l1 : lo 1 = some (.int n)) (l2 : lo 2 = some (.ref l))
    (k : ∀ lo' hb' hp', lo' 2 = some (.ref l) → StO n h0 h1 hb' hp' l cells.length → Q .next ⟨lo', hp'⟩) : stLoop Q E ⟨lo, hp⟩ := by
  refine s_for (hb := hb) (zs_list (z_nameL l0 hc)) S.g.s fun hb1 hp1 g => ⟨fun i lo' hp' => lo' 1 = some (.int n) ∧ lo' 2 = some (.ref l) ∧ ∃ hb2, Ext hb1 hb2 ∧ StO n h0 h1 hb2 hp' l i, ⟨l1, l2, hb1, Ext.refl _, S.gr g⟩, fun i lo' hp' h => by obtain ⟨_, _, hb2, e, S2⟩ := h; exact e.trans S2.g.s, ?_, ?_⟩
  · rintro i c v lo' hp' hc rfl ⟨m1, m2, hb2, e2, S2⟩
    obtain ⟨hi, _⟩ := List.getElem?_eq_some_iff.mp hc
    have k1 : c % (n : Int) ∈ keysN n := mod_key hn
    have k2 : c / (n : Int) % (n : Int) ∈ keysN n := mod_key hn
    refine s_pair (hb := hb2) (z_mod (z_nameI rfl) (z_nameI m1) (by (first | lia | omega))) (z_mod (z_div (z_nameI rfl) (z_nameI m1) (by (first | lia | omega)) (by (first | lia | omega))) (z_nameI m1) (by (first | lia | omega))) S2.g.s ?_
    rintro hb3 hp3 _ _ g3 rfl rfl
    refine s_next (s_if (hb := hb3) (zt_bool (z_ne (z_mod (z_div (z_div (z_nameI rfl) (z_nameI m1) (by (first | lia | omega)) (by (first | lia | omega))) (z_nameI m1) (by (first | lia | omega)) (by (first | lia | omega))) z_int (by (first | lia | omega))) z_int)) g3.s (fun _ hb4 hp4 g4 => ?_) fun _ hb4 hp4 g4 => ?_)
    · obtain ⟨k3, k4⟩ := min_key k1 k2
      refine ⟨_, rfl, _, rfl, _, rfl, _, rfl, rfl, fun b zb => ?_⟩
      have g5 := Gr.new g4.s (.tup [.int (min (c % n) (c / n % n)), .int (max (c % n) (c / n % n))]) zb
      exact st_tail hn hn2 (((S2.gr g3).gr g4).gr g5) (by (first | lia | omega)) k3 k4 m1 m2 rfl rfl rfl fun hb6 hp6 e6 S6 => ⟨m1, m2, hb6, e2.trans (g3.b.trans (g4.b.trans (g5.b.trans e6))), S6⟩
    · exact st_tail hn hn2 ((S2.gr g3).gr g4) (by (first | lia | omega)) k1 k2 m1 m2 rfl rfl rfl fun hb6 hp6 e6 S6 => ⟨m1, m2, hb6, e2.trans (g3.b.trans (g4.b.trans e6)), S6⟩
  · rintro lo' hp' ⟨m1, m2, hb2, e2, S2⟩
    exact k lo' hb2 hp' m2 S2
theorem steps_spec {Q : AV → AH → Prop} {E : Ex → AH → Prop} {lc : Addr} {cells : List Int} (hn : 0 < n) (hn2 : n < 1000) (s : Ext hb hp) (hc : hb lc = some (.list (intsA cells))) (hcl : cells.length < 100)
    (k : ∀ hb' hp' v st, Gr hb hp hb' hp' → (VL VII).r st v hb' → (∀ p ∈ st, p.1 ∈ keysN n ∧ p.2 ∈ keysN n) → st.length ≤ cells.length + 2 → Q v hp') : fp_steps [.ref lc, .int n] Q E hp := by
  refine ⟨rfl, ?_⟩
  rw [st_eq]
  have fin : ∀ {hb1 hp1 : AH} {l : Addr} {vs : List AV} {st : List (Int × Int)}, Gr hb hp hb1 hp1 → hp1 l = none → All2 VII st vs hb1 → st.length ≤ 2 → (∀ p ∈ st, p.1 ∈ keysN n ∧ p.2 ∈ keysN n) → (sSeq stLoop (sRet (pName 2))) (fun fl σ => Q (retV fl) σ.hp) (fun ex σ => E ex σ.hp) ⟨setv (fun i => [AV.ref lc, AV.int n][i]?) 2 (.ref l), upd hp1 l (.list vs)⟩ := by
    intro hb1 hp1 l vs st g hl hs hb hk
    have z1 := g.e.none hl
    have z2 := g.s.none hl
    refine s_next (st_loop hn hn2 (g.b _ _ hc) hcl (h0 := _) (h1 := hp) ⟨g.mut z1 z2, z1, z2, st, vs, upd_self .., hs, hk, hb⟩ rfl rfl rfl fun lo' hb' hp' g2 S => ?_)
    obtain ⟨g3, n1, nb, st', vs', hl', hs', hk', hb'⟩ := S
    have g4 := g3.know s n1 hl'
    exact ⟨_, g2, k _ _ _ st' g4 ⟨l, vs', rfl, upd_self .., hs'.ext (Ext.new _ nb)⟩ hk' hb'⟩
  refine (zt_bool (z_eq (z_nameI rfl) z_int) : ZT _ _ _ hb) hp s _ _ fun hb1 hp1 g1 => ?_
  by_cases q : (n : Int) = 5
  · rw [if_pos (by simpa using q)]
    have hz : ZI (lCons (pTuple (lCons (pInt 0) (lCons (pInt 1) lNil))) (lCons (pTuple (lCons (pInt 2) (lCons (pInt 3) lNil))) lNil)) VII [(0, 1), (2, 3)] (fun i => [AV.ref lc, AV.int n][i]?) hb1 := zi_cons (z_pair z_int z_int) (zi_cons (z_pair z_int z_int) zi_nil)
    refine hz hp1 g1.s _ _ fun hb2 hp2 vs g2 hv => ⟨by rw [hv.len]; decide, fun a za => fin (g1.trans g2) za hv (by decide) ?_⟩
    intro p hp
    simp only [mem_keysN]
    rcases List.mem_cons.mp hp with rfl | hp
    · dsimp only; (first | lia | omega)
    · rw [List.mem_singleton.mp hp]; dsimp only; (first | lia | omega)
  · rw [if_neg (by simpa using q)]
    exact ⟨by decide, fun a za => fin g1 za (st := []) (vs := []) trivial (Nat.zero_le _) nofun⟩
end
end
section
theorem TC.rank {succ : Int → List Int} {keys : List Int} {r : Int → Nat} (hr : ∀ v ∈ keys, ∀ w ∈ succ v, r w < r v) (hsub : ∀ v ∈ keys, ∀ w ∈ succ v, w ∈ keys) {a b : Int} (h : TC succ a b) (ha : a ∈ keys) : r b < r a ∧ b ∈ keys := by
  induction h with
  | one e => exact ⟨hr _ ha _ e, hsub _ ha _ e⟩
  | more _ e ih => exact ⟨Nat.lt_trans (hr _ ih.2 _ e) ih.1, hsub _ ih.2 _ e⟩
section
variable {n : Nat} {lo : Loc} {h0 hb hp : AH} {v : AV} {st : List (Int × Int)}
theorem told_spec {Q : AV → AH → Prop} {E : Ex → AH → Prop} (s : Ext hb hp) (hv : (VL VII).r st v hb) (hn : n < 1000) (hst : ∀ p ∈ st, p.1 ∈ keysN n ∧ p.2 ∈ keysN n) (hl : st.length < 1000)
    (k : ∀ hp' t X c Rs, hp t = none → Rn hp (upd hb t (.tup [.ref X, .bool c])) hp' X (keysN n) (succS st) (fun _ => false) (fun _ => false) Rs → (c = true ↔ ∃ k ∈ keysN n, TC (succS st) k k) → Q (.ref t) hp') : fp_told [v, .int n] Q E hp := by
  refine ⟨rfl, ?_⟩
  have hsub : ∀ v ∈ keysN n, ∀ w ∈ succS st v, w ∈ keysN n := fun v _ w hw => (hst _ (mem_succS.mp hw)).2
  unfold pt_told
  refine s_sorter (hb := hb) (h0 := hp) s (Ext.refl _) fun hp1 X B1 e1 => ?_
  refine s_next (b_names B1 hn (by decide) rfl rfl fun lo2 hp2 f2 B2 => ?_)
  refine s_next (b_steps B2 hn hst hl (by decide) (by decide) (by decide) (f2 0 (by decide)) hv (f2 2 (by decide)) fun lo3 hp3 f3 B3 => ?_)
  have l2 : lo3 2 = some (.ref X) := (f3 2 (by decide) (by decide)).trans (f2 2 (by decide))
  refine ⟨_, l2, X, B3.inst, ?_⟩
  refine b_prep B3 (fun k _ => cntS_ind (nodup_keysN n) (fun p hp => (hst p hp).1) k) hsub (by rw [len_keysN]; exact hn) (fun hp4 Rs R4 hr => ?_) fun hp4 Rs R4 hr => ?_
  · refine ⟨_, l2, by simp, fun t zt => ?_⟩
    have z0 := R4.e0.none zt
    refine k _ t X false Rs z0 (R4.gr (Gr.new R4.s _ zt)) ⟨nofun, ?_⟩
    rintro ⟨j, hj, hc⟩
    obtain ⟨r, hr⟩ := hr
    exact absurd (hc.rank hr hsub hj).1 (Nat.lt_irrefl _)
  · refine ⟨rfl, _, l2, by simp, fun t zt => ?_⟩
    exact k _ t X true Rs (R4.e0.none zt) (R4.gr (Gr.new R4.s _ zt)) ⟨fun _ => hr, fun _ => rfl⟩
/-- a sorter whose table has a name of its own -/
noncomputable def BldN (h0 hb hp : AH) (x n2i : Addr) (keys : List Int) (cnt : Int → Int) (succ : Int → List Int) : Prop := ∃ own d rec suc, Srt hp own x d n2i rec suc keys cnt succ .none 0 0 ∧ Bas h0 hb hp own x
variable {X n2i : Addr} {keys : List Int} {cnt : Int → Int} {succ : Int → List Int} {one other : Int}
theorem BldN.gr {hb' hp' : AH} (B : BldN h0 hb hp X n2i keys cnt succ) (g : Gr hb hp hb' hp') : BldN h0 hb' hp' X n2i keys cnt succ := by
  obtain ⟨own, d, rec, suc, S, b⟩ := B
  exact ⟨own, d, rec, suc, S.ext g.e, b.gr g S.al S.hx⟩
theorem BldN.s (B : BldN h0 hb hp X n2i keys cnt succ) : Ext hb hp := by obtain ⟨own, d, rec, suc, S, b⟩ := B; exact b.s
theorem BldN.less {hb' h1 : AH} (B : BldN h0 hb hp X n2i keys cnt succ) (e : Ext h1 h0) (e' : Ext hb' hb) : BldN h1 hb' hp X n2i keys cnt succ := by
  obtain ⟨own, d, rec, suc, S, b⟩ := B
  exact ⟨own, d, rec, suc, S, b.less e e'⟩
theorem BldN.toB (B : BldN h0 hb hp X n2i keys cnt succ) : Bld h0 hb hp X keys cnt succ := by
  obtain ⟨own, d, rec, suc, S, b⟩ := B
  exact ⟨own, d, n2i, rec, suc, S, b⟩
theorem BldN.dict (B : BldN h0 hb hp X n2i keys cnt succ) : ∃ es ep, hp n2i = some (.dict es ep) ∧ (∀ k, es.any (·.1 == k) = decide (k ∈ keys)) ∧ es.map (·.1) = keys := by
  obtain ⟨own, d, rec, suc, S, b⟩ := B
  obtain ⟨ep, e⟩ := S.hn
  refine ⟨_, ep, e, fun k => ?_, ?_⟩
  · rw [Bool.eq_iff_iff, List.any_eq_true, decide_eq_true_eq]
    constructor
    · rintro ⟨x, hx, hk⟩
      obtain ⟨j, hj, rfl⟩ := List.mem_map.mp hx
      exact eq_of_beq hk ▸ hj
    · intro h; exact ⟨_, List.mem_map_of_mem h, beq_self_eq_true _⟩
  · rw [List.map_map]; exact List.map_id _
/-- a record is put in, if there is none -/
theorem link_put {Q : Fl → St → Prop} {E : Ex → St → Prop} (B : BldN h0 hb hp X n2i keys cnt succ) (hz : keys.length < 100000) (l0 : lo 0 = some (.ref n2i)) (l3 : lo 3 = some (.int one))
    (k : ∀ hp', BldN h0 hb hp' X n2i (insK keys one) cnt succ → Q .next ⟨lo, hp'⟩) : (sIf (tOf (pBin opNotIn (pName 3) (pName 0))) (sAssign (pNewN fp_record (lCons (pName 3) lNil)) (aItem (pName 0) (pName 3))) sNil) Q E ⟨lo, hp⟩ := by
  obtain ⟨es, ep, e, h1, h2⟩ := B.dict
  refine ⟨_, l3, _, l0, .inr ⟨_, hasKey_dict (σ := ⟨lo, hp⟩) e, ?_⟩⟩
  rw [h1]
  show if _ then _ else _
  by_cases q : one ∈ keys
  · rw [if_neg (by simpa using q)]
    rw [insK_mem q] at k
    exact k hp B
  · rw [if_pos (by simpa using q)]
    rw [insK_new q] at k
    obtain ⟨own, d, rec, suc, S, b⟩ := B
    refine ⟨_, l3, fun r dd hr hdd hrd => ?_⟩
    refine record_spec hr hdd hrd fun hp1 sl ex hsl er edd esl => ⟨rfl, ?_⟩
    have S1 := S.ext ex
    obtain ⟨ep1, en⟩ := S1.hn
    refine ⟨_, l0, _, l3, .inr ⟨_, ep1, en, ?_, fun ep' => ?_⟩⟩
    · rw [List.length_map]; (first | lia | omega)
    have S2 := S1.put q er edd esl (fun j hj => ne_of (S.hs j hj) hsl) ep'
    have F : Frm hp own (upd hp1 n2i (.dict (storedA (keys.map fun k => (k, .ref (rec k))) one (.ref r)) ep')) (fun a => own a ∨ a = r ∨ a = sl ∨ a = dd) := fun a o e n => by
      refine ⟨upd_at (fun q => n (q ▸ S.on)) (ex _ _ e), ?_⟩
      rintro (q | rfl | rfl | rfl)
      · exact n q
      · exact absurd (hr.symm.trans e) nofun
      · exact absurd (hsl.symm.trans e) nofun
      · exact absurd (hdd.symm.trans e) nofun
    exact k _ ⟨_, d, _, _, S2, b.frm F S.hx⟩
theorem link_spec {Q : AV → AH → Prop} {E : Ex → AH → Prop} (B : BldN h0 hb hp X n2i keys cnt succ) (hz : keys.length < 1000) (hs : ∀ k, (succ k).length < 1000)
    (k : ∀ hp', BldN h0 hb hp' X n2i (insK (insK keys one) other) (if one = other then cnt else setI cnt other (cnt other + 1)) (if one = other then succ else setI succ one (succ one ++ [other])) → Q .none hp') : fp_link [.ref n2i, .int one, .int other] Q E hp := by
  refine ⟨rfl, ?_⟩
  refine ⟨_, rfl, _, rfl, by simp, fun t zt => ?_⟩
  have g1 := Gr.new B.s (.tup [.int one, .int other]) zt
  refine ⟨t, rfl, .inr (.inl ⟨_, upd_self .., ?_⟩)⟩
  have ht := upd_self hb t (.tup [.int one, .int other])
  have B1 := B.gr g1
  show ∃ J : Nat → St → Prop, _
  generalize upd hb t (.tup [.int one, .int other]) = hb1 at g1 ht B1
  dsimp only
  generalize upd hp t (.tup [.int one, .int other]) = hp1 at g1 B1
  have l1 := len_insK keys one
  refine ⟨fun i σ => i ≤ 2 ∧ σ.loc 0 = some (.ref n2i) ∧ σ.loc 1 = some (.int one) ∧ σ.loc 2 = some (.int other) ∧ BldN h0 hb1 σ.hp X n2i (if i = 0 then keys else if i = 1 then insK keys one else insK (insK keys one) other) cnt succ, ⟨by decide, rfl, rfl, rfl, B1⟩, ?_⟩
  rintro i ⟨lo2, hp2⟩ ⟨hi, m0, m1, m2, B2⟩
  refine ⟨B2.s _ _ ht, ?_⟩
  dsimp only at m0 m1 m2 B2
  match i, hi, B2 with
  | 0, _, B2 => exact link_put (lo := setv lo2 3 (.int one)) B2 (by show keys.length < _; (first | lia | omega)) m0 rfl fun hp3 B3 => ⟨by decide, m0, m1, m2, B3⟩
  | 1, _, B2 => exact link_put (lo := setv lo2 3 (.int other)) B2 (by show (insK keys one).length < _; (first | lia | omega)) m0 rfl fun hp3 B3 => ⟨by decide, m0, m1, m2, B3⟩
  | 2, _, B2 =>
    refine ⟨_, m1, _, m2, ?_⟩
    show if _ then _ else _
    by_cases q : one = other
    · rw [if_neg (by simpa using q)]
      rw [if_pos q, if_pos q] at k
      exact k hp2 (B2.less (Ext.refl _) g1.b)
    · rw [if_pos (by simpa using q)]
      rw [if_neg q, if_neg q] at k
      have ho : one ∈ insK (insK keys one) other := mem_insK.mpr (.inl (mem_insK.mpr (.inr rfl)))
      have ht : other ∈ insK (insK keys one) other := mem_insK.mpr (.inr rfl)
      obtain ⟨own, d, rec, suc, S, b⟩ := B2
      obtain ⟨d1, e1, q1⟩ := S.hr one ho
      have es := S.hs one ho
      refine ⟨_, m0, _, m1, _, S.item (σ := ⟨lo2, hp2⟩) ho, d1, _, _, e1, q1, rfl, ⟨suc one, _, rfl, es, rfl⟩, _, m2, _, es, ?_, ?_⟩
      · rw [List.length_map]; have := hs one; (first | lia | omega)
      have S2 := S.sets ho (succ one ++ [other])
      have F2 : Frm hp2 own _ own := Frm.set (o := .list (intsA (succ one ++ [other]))) (S.os one ho)
      have e2 : intsA (succ one ++ [other]) = intsA (succ one) ++ [.int other] := List.map_append ..
      rw [e2] at S2 F2
      dsimp only
      generalize upd hp2 (suc one) (.list (intsA (succ one) ++ [.int other])) = hp3 at S2 F2
      obtain ⟨d3, e3, q3⟩ := S2.hr other ht
      refine ⟨_, m0, _, m2, _, S2.item (σ := ⟨lo2, hp3⟩) ht, d3, _, _, e3, q3, rfl, d3, _, e3, q3, ?_⟩
      have S3 := S2.setc ht (cnt other + 1) q3 (S2.odd ht e3)
      have F3 : Frm hp2 own _ own := F2.trans (Frm.set (o := .rcd d3 [some (.int other), some (.int (cnt other + 1)), some (.ref (suc other))]) (S2.orr other ht))
      exact k _ ⟨own, d, rec, suc, S3, (b.frm F3 S.hx).less (Ext.refl _) g1.b⟩
end
end
section
theorem bitOr_nat (x y : Nat) : Builtin.bitOr (x : Int) (y : Int) = ((x ||| y : Nat) : Int) := by
  unfold Builtin.bitOr Builtin.bitAnd Builtin.bitNot
  have h1 : decide (0 ≤ -(x : Int) - 1) = false := by rw [decide_eq_false_iff_not]; (first | lia | omega)
  have h2 : decide (0 ≤ -(y : Int) - 1) = false := by rw [decide_eq_false_iff_not]; (first | lia | omega)
  rw [h1, h2]
  have h3 : (-(-(x : Int) - 1) - 1).toNat = x := by (first | lia | omega)
  have h4 : (-(-(y : Int) - 1) - 1).toNat = y := by (first | lia | omega)
  simp only [h3, h4]
  (first | lia | omega)
theorem bit_one (m k : Nat) : Builtin.bitAnd ((m : Int) / 2 ^ k) 1 = ((m.testBit k).toNat : Int) := by
  rw [bitAnd_m1, Nat.toNat_testBit, Int.natCast_emod, Int.natCast_ediv]
  rfl
/-- the names of a set that is written as a number -/
noncomputable def bit (m : Nat) (k : Int) : Bool := m.testBit k.toNat
noncomputable def pw (k : Int) : Nat := 2 ^ k.toNat
theorem fin_add : ∀ m < 32, ∀ k < 5, Nat.testBit m k = false → m < m + 2 ^ k ∧ ∀ j < 5, Nat.testBit (m + 2 ^ k) j = (Nat.testBit m j || j == k) := by decide +kernel
theorem fin_low : ∀ m < 32, ∀ k < 5, ∀ n < 6, Nat.testBit m k = true ∨ n ≤ k ∨ 2 ^ n ≤ m ∨ m + 2 ^ k < 2 ^ n := by decide +kernel
theorem fin_sub : ∀ m < 32, ∀ k < 5, Nat.testBit m k = true → 2 ^ k ≤ m ∧ ∀ j < 5, Nat.testBit (m - 2 ^ k) j = (Nat.testBit m j && j != k) := by decide +kernel
section
variable {n : Nat} {m m' : Nat} {k j : Int}
theorem pw5 (h : n ≤ 5) : 2 ^ n ≤ 32 := by
  have : 2 ^ n ≤ 2 ^ 5 := Nat.pow_le_pow_right (by decide) h
  (first | lia | omega)
theorem add_bits (hn : n ≤ 5) (hm : m < 2 ^ n) (hk : k ∈ keysN n) (hb : bit m k = false) : m < m + pw k ∧ m + pw k < 2 ^ n ∧ ∀ j ∈ keysN n, bit (m + pw k) j = (bit m j || decide (j = k)) := by
  have h5 := pw5 hn
  have hk' := mem_keysN.mp hk
  obtain ⟨h1, h4⟩ := fin_add m (by (first | lia | omega)) k.toNat (by (first | lia | omega)) hb
  refine ⟨h1, ?_, fun j hj => ?_⟩
  · rcases fin_low m (by (first | lia | omega)) k.toNat (by (first | lia | omega)) n (by (first | lia | omega)) with h | h | h | h
    · exact absurd (hb.symm.trans h) nofun
    · (first | lia | omega)
    · (first | lia | omega)
    · exact h
  have hj' := mem_keysN.mp hj
  refine (h4 j.toNat (by (first | lia | omega))).trans ?_
  show (bit m j || _) = _
  congr 1
  rw [Bool.eq_iff_iff, beq_iff_eq, decide_eq_true_eq]
  (first | lia | omega)
theorem sub_bits (hn : n ≤ 5) (hm : m < 2 ^ n) (hk : k ∈ keysN n) (hb : bit m k = true) : pw k ≤ m ∧ ∀ j ∈ keysN n, bit (m - pw k) j = (bit m j && !decide (j = k)) := by
  have h5 := pw5 hn
  have hk' := mem_keysN.mp hk
  obtain ⟨h1, h4⟩ := fin_sub m (by (first | lia | omega)) k.toNat (by (first | lia | omega)) hb
  refine ⟨h1, fun j hj => ?_⟩
  have hj' := mem_keysN.mp hj
  refine (h4 j.toNat (by (first | lia | omega))).trans ?_
  show (bit m j && _) = _
  congr 1
  rw [Bool.eq_iff_iff, bne_iff_ne, Bool.not_eq_true', decide_eq_false_iff_not]
  (first | lia | omega)
theorem mask_ext (hm : m < 2 ^ n) (hm' : m' < 2 ^ n) (h : ∀ j ∈ keysN n, bit m j = bit m' j) : m = m' := by
  refine Nat.eq_of_testBit_eq fun i => ?_
  by_cases q : i < n
  · exact h i (mem_keysN.mpr (by (first | lia | omega)))
  · have h1 : 2 ^ n ≤ 2 ^ i := Nat.pow_le_pow_right (by decide) (by (first | lia | omega))
    rw [Nat.testBit_lt_two_pow (by (first | lia | omega)), Nat.testBit_lt_two_pow (by (first | lia | omega))]
theorem bit_or : bit (m ||| m') k = (bit m k || bit m' k) := Nat.testBit_or ..
theorem bit_pw (hk : 0 ≤ k) (hj : 0 ≤ j) : bit (pw k) j = decide (j = k) := by
  unfold bit pw
  rw [Nat.testBit_two_pow, Bool.eq_iff_iff, decide_eq_true_eq, decide_eq_true_eq]
  (first | lia | omega)
theorem pw_lt (hk : k ∈ keysN n) : pw k < 2 ^ n := by
  have := mem_keysN.mp hk
  exact Nat.pow_lt_pow_right (by decide) (by (first | lia | omega))
theorem or_lt (h : m < 2 ^ n) (h' : m' < 2 ^ n) : m ||| m' < 2 ^ n := Nat.or_lt_two_pow h h'
end
theorem TC.trans {succ : Int → List Int} {a b c : Int} (h : TC succ a b) (k : TC succ b c) : TC succ a c := by
  induction k with
  | one e => exact h.more e
  | more _ e ih => exact ih.more e
/-- ways with a length -/
inductive Way (st : List (Int × Int)) (a : Int) : Nat → Int → Prop
  | one {b : Int} : (a, b) ∈ st → Way st a 1 b
  | more {t : Nat} {b c : Int} : Way st a t b → (b, c) ∈ st → Way st a (t + 1) c
theorem way_tc {st : List (Int × Int)} {a b : Int} : TC (succS st) a b ↔ ∃ t, Way st a t b := by
  constructor
  · intro h
    induction h with
    | one e => exact ⟨1, .one (mem_succS.mp e)⟩
    | more _ e ih => obtain ⟨t, w⟩ := ih; exact ⟨t + 1, .more w (mem_succS.mp e)⟩
  · rintro ⟨t, w⟩
    induction w with
    | one e => exact .one (mem_succS.mpr e)
    | more _ e ih => exact .more ih (mem_succS.mpr e)
/-- what a way of at most t steps reaches -/
noncomputable def Upto (st : List (Int × Int)) (x : Int) (t : Nat) (k : Int) : Prop := ∃ s, s ≤ t ∧ Way st x s k
section
variable {st : List (Int × Int)} {n : Nat} (hst : ∀ p ∈ st, p.1 ∈ keysN n ∧ p.2 ∈ keysN n)
include hst
theorem way_key {t : Nat} {a b : Int} (w : Way st a t b) : a ∈ keysN n ∧ b ∈ keysN n := by
  induction w with
  | one e => exact hst _ e
  | more _ e ih => exact ⟨ih.1, (hst _ e).2⟩
theorem upto_all {x k : Int} (h : TC (succS st) x k) : Upto st x n k := by
  let c : Nat → Nat := fun t => (keysN n).countP fun k => @decide (Upto st x t k) (Classical.propDecidable _)
  have mono : ∀ t j, Upto st x t j → Upto st x (t + 1) j := fun t j ⟨s, h1, h2⟩ => ⟨s, by (first | lia | omega), h2⟩
  have stab : ∀ s, (∀ j, Upto st x (s + 1) j → Upto st x s j) → ∀ t j, Way st x t j → Upto st x s j := fun s hs t j w => by
    induction w with
    | one e => exact hs _ ⟨1, by (first | lia | omega), .one e⟩
    | more _ e ih => obtain ⟨r, h1, h2⟩ := ih; exact hs _ ⟨r + 1, by (first | lia | omega), .more h2 e⟩
  have key : ∀ t, (∃ s ≤ t, ∀ j, Upto st x (s + 1) j → Upto st x s j) ∨ t ≤ c t := fun t => by
    induction t with
    | zero => exact .inr (Nat.zero_le _)
    | succ t ih =>
      rcases ih with ⟨s, h1, h2⟩ | ih
      · exact .inl ⟨s, by (first | lia | omega), h2⟩
      · rcases Classical.em (∀ j, Upto st x (t + 1) j → Upto st x t j) with q | q
        · exact .inl ⟨t, by (first | lia | omega), q⟩
        · refine .inr ?_
          obtain ⟨j, hj⟩ := Classical.not_forall.mp q
          obtain ⟨h1, h2⟩ := Classical.not_imp.mp hj
          obtain ⟨s, _, w⟩ := h1
          have hjk := (way_key hst w).2
          have : c t + 1 ≤ c (t + 1) := by
            show (keysN n).countP _ + 1 ≤ (keysN n).countP _
            rw [← cntP_set (p := fun k => @decide (Upto st x t k) (Classical.propDecidable _)) (nodup_keysN n) hjk (by simpa using h2)]
            refine List.countP_mono_left fun i _ hi => ?_
            unfold setB at hi
            split at hi
            · rename_i e; rw [e]; simpa using ⟨s, ‹_›, w⟩
            · simpa using mono t i (by simpa using hi)
          (first | lia | omega)
  obtain ⟨t, w⟩ := way_tc.mp h
  rcases key n with ⟨s, h1, h2⟩ | h1
  · obtain ⟨r, h3, h4⟩ := stab s h2 t k w
    exact ⟨r, by (first | lia | omega), h4⟩
  · have h2 : c n ≤ (keysN n).length := List.countP_le_length
    rw [len_keysN] at h2
    have h3 : (keysN n).countP (fun k => @decide (Upto st x n k) (Classical.propDecidable _)) = (keysN n).length := by rw [len_keysN]; exact Nat.le_antisymm h2 h1
    have := List.countP_eq_length.mp h3 k (way_key hst w).2
    simpa using this
end
end
section
noncomputable def upA (A : Int → Nat) (p : Int × Int) : Int → Nat := setI A p.2 (A p.2 ||| A p.1 ||| pw p.1)
noncomputable def pass (A : Int → Nat) (l : List (Int × Int)) : Int → Nat := l.foldl upA A
noncomputable def rounds (st : List (Int × Int)) : Nat → Int → Nat
  | 0 => fun _ => 0
  | t + 1 => pass (rounds st t) st
section
variable {st l : List (Int × Int)} {n : Nat} {A : Int → Nat} {x k : Int}
theorem upA_mono {p : Int × Int} (h : bit (A k) x = true) : bit (upA A p k) x = true := by
  unfold upA setI
  split
  · rename_i e; subst e; rw [bit_or, bit_or, h]; rfl
  · exact h
theorem pass_mono (h : bit (A k) x = true) : bit (pass A l k) x = true := by
  induction l generalizing A with
  | nil => exact h
  | cons p l ih => exact ih (upA_mono h)
theorem pass_edge {f s : Int} (hf : 0 ≤ f) (h : (f, s) ∈ l) : (∀ x, bit (A f) x = true → bit (pass A l s) x = true) ∧ bit (pass A l s) f = true := by
  induction l generalizing A with
  | nil => cases h
  | cons p l ih =>
    rcases List.mem_cons.mp h with rfl | h
    · have e : upA A (f, s) s = A s ||| A f ||| pw f := setI_self ..
      refine ⟨fun x hx => pass_mono (A := upA A (f, s)) ?_, pass_mono (A := upA A (f, s)) ?_⟩
      · rw [e, bit_or, bit_or, hx, Bool.or_true, Bool.true_or]
      · rw [e, bit_or, bit_pw hf hf]; simp
    · obtain ⟨h1, h2⟩ := ih (A := upA A p) h
      exact ⟨fun x hx => h1 x (upA_mono hx), h2⟩
theorem pass_sound (hl : ∀ p ∈ l, p ∈ st ∧ 0 ≤ p.1) (hA : ∀ x k, 0 ≤ x → bit (A k) x = true → TC (succS st) x k) : ∀ x k, 0 ≤ x → bit (pass A l k) x = true → TC (succS st) x k := by
  induction l generalizing A with
  | nil => exact hA
  | cons p l ih =>
    refine ih (fun q hq => hl q (List.mem_cons_of_mem _ hq)) fun x k hx h => ?_
    obtain ⟨h1, h2⟩ := hl p (List.mem_cons_self ..)
    have e : p.2 ∈ succS st p.1 := mem_succS.mpr h1
    unfold upA setI at h
    split at h
    · rename_i q; subst q
      rw [bit_or, bit_or, bit_pw h2 hx, Bool.or_eq_true, Bool.or_eq_true, decide_eq_true_eq] at h
      rcases h with (h | h) | h
      · exact hA _ _ hx h
      · exact (hA _ _ hx h).more e
      · rw [h]; exact .one e
    · exact hA _ _ hx h
theorem pass_lt (hl : ∀ p ∈ l, p.1 ∈ keysN n) (hA : ∀ k, A k < 2 ^ n) : ∀ k, pass A l k < 2 ^ n := by
  induction l generalizing A with
  | nil => exact hA
  | cons p l ih =>
    refine ih (fun q hq => hl q (List.mem_cons_of_mem _ hq)) fun k => ?_
    unfold upA setI
    split
    · exact or_lt (or_lt (hA _) (hA _)) (pw_lt (hl p (List.mem_cons_self ..)))
    · exact hA k
end
section
variable {st : List (Int × Int)} {n : Nat}
noncomputable abbrev T (st : List (Int × Int)) (x k : Int) : Prop := TC (succS st) x k
/-- all that leads to a name, as a number -/
noncomputable def ahd (st : List (Int × Int)) (n : Nat) (k : Int) : Nat := rounds st n k
/-- in no ring and behind none -/
noncomputable def Fre (st : List (Int × Int)) (n : Nat) (k : Int) : Prop := ¬ T st k k ∧ ∀ x ∈ keysN n, T st x x → ¬ T st x k
/-- a set of names that can be done -/
noncomputable def Idl (st : List (Int × Int)) (n m : Nat) : Prop := m < 2 ^ n ∧ ∀ k ∈ keysN n, bit m k = true → Fre st n k ∧ ∀ f, (f, k) ∈ st → bit m f = true
noncomputable def Rdy (st : List (Int × Int)) (m : Nat) (k : Int) : Prop := bit m k = false ∧ ∀ f, (f, k) ∈ st → bit m f = true
/-- nothing of the set needs k -/
noncomputable def Top (st : List (Int × Int)) (n m : Nat) (k : Int) : Prop := ∀ y ∈ keysN n, bit m y = true → (k, y) ∉ st
theorem T.last {x k : Int} (h : T st x k) : ∃ f, (f, k) ∈ st ∧ (x = f ∨ T st x f) := by
  cases h with
  | one e => exact ⟨x, mem_succS.mp e, .inl rfl⟩
  | more h e => exact ⟨_, mem_succS.mp e, .inr h⟩
theorem T.first {x k : Int} (h : T st x k) : ∃ y, (x, y) ∈ st ∧ (y = k ∨ T st y k) := by
  induction h with
  | one e => exact ⟨_, mem_succS.mp e, .inl rfl⟩
  | more h e ih =>
    obtain ⟨y, h1, h2⟩ := ih
    exact ⟨y, h1, .inr (h2.elim (fun q => q ▸ .one e) fun q => q.more e)⟩
theorem T.of {x k : Int} (h : (x, k) ∈ st) : T st x k := .one (mem_succS.mpr h)
variable (hst : ∀ p ∈ st, p.1 ∈ keysN n ∧ p.2 ∈ keysN n)
include hst
theorem t_key {x k : Int} (h : T st x k) : x ∈ keysN n ∧ k ∈ keysN n := by
  obtain ⟨t, w⟩ := way_tc.mp h
  exact way_key hst w
theorem rounds_upto {x k : Int} {t : Nat} (h : Upto st x t k) : bit (rounds st t k) x = true := by
  have h0 : ∀ p ∈ st, 0 ≤ p.1 := fun p hp => (mem_keysN.mp (hst p hp).1).1
  have hx : 0 ≤ x := by obtain ⟨s, _, w⟩ := h; exact (mem_keysN.mp (way_key hst w).1).1
  induction t generalizing k with
  | zero =>
    obtain ⟨s, h1, w⟩ := h
    cases w with
    | one => (first | lia | omega)
    | more => (first | lia | omega)
  | succ t ih =>
    obtain ⟨s, h1, w⟩ := h
    cases w with
    | one e => exact (pass_edge (A := rounds st t) hx e).2
    | more w e => exact (pass_edge (A := rounds st t) (h0 _ e) e).1 x (ih ⟨_, by (first | lia | omega), w⟩)
theorem rounds_sound (t : Nat) : ∀ x k, 0 ≤ x → bit (rounds st t k) x = true → T st x k := by
  induction t with
  | zero => intro x k _ h; unfold rounds bit at h; simp at h
  | succ t ih => exact pass_sound (fun p hp => ⟨hp, (mem_keysN.mp (hst p hp).1).1⟩) ih
theorem ahd_bit {x k : Int} (hx : x ∈ keysN n) : bit (ahd st n k) x = true ↔ T st x k :=
  ⟨rounds_sound hst n x k (mem_keysN.mp hx).1, fun h => rounds_upto hst (upto_all hst h)⟩
theorem ahd_lt (k : Int) : ahd st n k < 2 ^ n := by
  have : ∀ t k, rounds st t k < 2 ^ n := fun t => by
    induction t with
    | zero => intro k; exact Nat.two_pow_pos n
    | succ t ih => exact pass_lt (fun p hp => (hst p hp).1) ih
  exact this n k
theorem ready_free {k : Int} (hk : k ∈ keysN n) (h : ∀ f, (f, k) ∈ st → Fre st n f) (hs : (k, k) ∉ st) : Fre st n k := by
  refine ⟨fun q => ?_, fun x hx hxx q => ?_⟩
  · obtain ⟨f, h1, h2⟩ := T.last q
    rcases h2 with rfl | h2
    · exact hs h1
    · exact (h f h1).2 k hk q h2
  · obtain ⟨f, h1, h2⟩ := T.last q
    rcases h2 with rfl | h2
    · exact (h x h1).1 hxx
    · exact (h f h1).2 x hx hxx h2
theorem idl_zero : Idl st n 0 := ⟨Nat.two_pow_pos n, fun k _ h => by unfold bit at h; simp at h⟩
theorem idl_t {m : Nat} (I : Idl st n m) {x k : Int} (h : T st x k) (hb : bit m k = true) : bit m x = true := by
  induction h with
  | one e => exact (I.2 _ (hst _ (mem_succS.mp e)).2 hb).2 _ (mem_succS.mp e)
  | more _ e ih => exact ih ((I.2 _ (hst _ (mem_succS.mp e)).2 hb).2 _ (mem_succS.mp e))
variable (hn : n ≤ 5)
include hn
theorem idl_add {m : Nat} (I : Idl st n m) {k : Int} (hk : k ∈ keysN n) (r : Rdy st m k) : Idl st n (m + pw k) := by
  obtain ⟨h1, h2, h3⟩ := add_bits hn I.1 hk r.1
  have hs : (k, k) ∉ st := fun q => by have := r.2 k q; rw [r.1] at this; cases this
  refine ⟨h2, fun j hj hb => ?_⟩
  rw [h3 j hj, Bool.or_eq_true, decide_eq_true_eq] at hb
  have up : ∀ f, f ∈ keysN n → bit m f = true → bit (m + pw k) f = true := fun f hf h => by rw [h3 f hf, h]; rfl
  by_cases q : bit m j = true
  · obtain ⟨g1, g2⟩ := I.2 j hj q
    exact ⟨g1, fun f hf => up f (hst _ hf).1 (g2 f hf)⟩
  · have e : j = k := hb.resolve_left q
    subst e
    exact ⟨ready_free hst hk (fun f hf => (I.2 f (hst _ hf).1 (r.2 f hf)).1) hs, fun f hf => up f (hst _ hf).1 (r.2 f hf)⟩
theorem idl_sub {m : Nat} (I : Idl st n m) {k : Int} (hk : k ∈ keysN n) (hb : bit m k = true) (ht : Top st n m k) : Idl st n (m - pw k) ∧ Rdy st (m - pw k) k ∧ m - pw k + pw k = m := by
  obtain ⟨h1, h2⟩ := sub_bits hn I.1 hk hb
  have nk : ∀ f j, bit m j = true → j ∈ keysN n → (f, j) ∈ st → f ≠ k := fun f j hj hjk hf q => ht j hjk hj (q ▸ hf)
  refine ⟨⟨by have := I.1; (first | lia | omega), fun j hj h => ?_⟩, ⟨by rw [h2 k hk]; simp, fun f hf => ?_⟩, Nat.sub_add_cancel h1⟩
  · rw [h2 j hj, Bool.and_eq_true] at h
    obtain ⟨g1, g2⟩ := I.2 j hj h.1
    refine ⟨g1, fun f hf => ?_⟩
    rw [h2 f (hst _ hf).1, g2 f hf]
    simpa using nk f j h.1 hj hf
  · rw [h2 f (hst _ hf).1, (I.2 k hk hb).2 f hf]
    simpa using nk f k hb hk hf
theorem top_of {m : Nat} (I : Idl st n m) {k : Int} (hk : k ∈ keysN n) (r : Rdy st m k) : bit (m + pw k) k = true ∧ Top st n (m + pw k) k := by
  obtain ⟨h1, h2, h3⟩ := add_bits hn I.1 hk r.1
  refine ⟨by rw [h3 k hk]; simp, fun y hy hb e => ?_⟩
  rw [h3 y hy, Bool.or_eq_true, decide_eq_true_eq] at hb
  rcases hb with hb | rfl
  · have := (I.2 y hy hb).2 k e; rw [r.1] at this; cases this
  · have := r.2 y e; rw [r.1] at this; cases this
omit hn in
theorem climb {m : Nat} (I : Idl st n m) : ∀ (c : Nat) {x : Int}, (keysN n).countP (fun z => @decide (T st x z) (Classical.propDecidable _)) ≤ c → x ∈ keysN n → bit m x = true → ∃ y ∈ keysN n, bit m y = true ∧ Top st n m y ∧ (x = y ∨ T st x y) := by
  intro c
  induction c with
  | zero =>
    intro x hc hx hb
    refine ⟨x, hx, hb, fun y hy hby e => ?_, .inl rfl⟩
    have h0 := List.countP_eq_zero.mp (Nat.le_zero.mp hc) y hy
    exact h0 (by simpa using T.of e)
  | succ c ih =>
    intro x hc hx hb
    rcases Classical.em (Top st n m x) with q | q
    · exact ⟨x, hx, hb, q, .inl rfl⟩
    · obtain ⟨y, hy⟩ := Classical.not_forall.mp q
      obtain ⟨h1, h2⟩ := Classical.not_imp.mp hy
      obtain ⟨h2, h3⟩ := Classical.not_imp.mp h2
      have h3 := Classical.not_not.mp h3
      have hlt : (keysN n).countP (fun z => @decide (T st y z) (Classical.propDecidable _)) + 1 ≤ (keysN n).countP (fun z => @decide (T st x z) (Classical.propDecidable _)) := by
        rw [← cntP_set (p := fun z => @decide (T st y z) (Classical.propDecidable _)) (nodup_keysN n) h1 (by simpa using ((I.2 y h1 h2).1).1)]
        refine List.countP_mono_left fun i _ hi => ?_
        unfold setB at hi
        split at hi
        · rename_i e; rw [e]; simpa using T.of h3
        · simpa using (T.of h3).trans (by simpa using hi)
      obtain ⟨z, g1, g2, g3, g4⟩ := ih (by (first | lia | omega)) h1 h2
      exact ⟨z, g1, g2, g3, .inr (g4.elim (fun e => e ▸ T.of h3) fun e => (T.of h3).trans e)⟩
omit hn in
theorem has_top {m : Nat} (I : Idl st n m) (h0 : m ≠ 0) : ∃ y ∈ keysN n, bit m y = true ∧ Top st n m y := by
  have : ∃ x ∈ keysN n, bit m x = true := by
    rcases Classical.em (∃ x ∈ keysN n, bit m x = true) with q | q
    · exact q
    · exfalso; apply h0
      refine mask_ext I.1 (Nat.two_pow_pos n) fun j hj => ?_
      have : bit 0 j = false := by unfold bit; simp
      rw [this]
      cases e : bit m j with
      | false => rfl
      | true => exact absurd ⟨j, hj, e⟩ q
  obtain ⟨x, hx, hb⟩ := this
  obtain ⟨y, h1, h2, h3, _⟩ := climb hst I _ (Nat.le_refl _) hx hb
  exact ⟨y, h1, h2, h3⟩
/-- a name with all that leads to it -/
noncomputable def dn (st : List (Int × Int)) (n : Nat) (k : Int) : Nat := ahd st n k + pw k
theorem dn_bits {k : Int} (hk : k ∈ keysN n) (F : Fre st n k) : dn st n k < 2 ^ n ∧ ∀ j ∈ keysN n, (bit (dn st n k) j = true ↔ T st j k ∨ j = k) := by
  have h0 : bit (ahd st n k) k = false := by
    cases e : bit (ahd st n k) k with
    | false => rfl
    | true => exact absurd ((ahd_bit hst hk).mp e) F.1
  obtain ⟨h1, h2, h3⟩ := add_bits hn (ahd_lt hst k) hk h0
  refine ⟨h2, fun j hj => ?_⟩
  unfold dn
  rw [h3 j hj, Bool.or_eq_true, decide_eq_true_eq, ahd_bit hst hj]
theorem free_t {x k : Int} (F : Fre st n k) (h : T st x k) : Fre st n x :=
  ⟨fun q => F.2 x (t_key hst h).1 q h, fun y hy hyy q => F.2 y hy hyy (q.trans h)⟩
theorem dn_idl {k : Int} (hk : k ∈ keysN n) (F : Fre st n k) : Idl st n (dn st n k) := by
  obtain ⟨h1, h2⟩ := dn_bits hst hn hk F
  refine ⟨h1, fun j hj hb => ?_⟩
  have hj' := (h2 j hj).mp hb
  refine ⟨hj'.elim (fun q => free_t hst hn F q) fun q => q ▸ F, fun f hf => (h2 f (hst _ hf).1).mpr (.inl ?_)⟩
  exact hj'.elim (fun q => (T.of hf).trans q) fun q => q ▸ T.of hf
theorem dn_top {k x : Int} (hk : k ∈ keysN n) (F : Fre st n k) (hx : x ∈ keysN n) : (bit (dn st n k) x = true ∧ Top st n (dn st n k) x) ↔ x = k := by
  obtain ⟨h1, h2⟩ := dn_bits hst hn hk F
  constructor
  · rintro ⟨g1, g2⟩
    rcases (h2 x hx).mp g1 with q | q
    · obtain ⟨y, e1, e2⟩ := T.first q
      have hy := (hst _ e1).2
      exact absurd e1 (g2 y hy ((h2 y hy).mpr (e2.elim .inr .inl)))
    · exact q
  · rintro rfl
    refine ⟨(h2 x hx).mpr (.inr rfl), fun y hy hb e => ?_⟩
    rcases (h2 y hy).mp hb with q | rfl
    · exact F.1 ((T.of e).trans q)
    · exact F.1 (T.of e)
theorem one_top {m : Nat} (I : Idl st n m) {k : Int} (hk : k ∈ keysN n) (hb : bit m k = true) (ht : Top st n m k) (h1 : ∀ y ∈ keysN n, bit m y = true → Top st n m y → y = k) : Fre st n k ∧ m = dn st n k := by
  have F := (I.2 k hk hb).1
  refine ⟨F, ?_⟩
  obtain ⟨g1, g2⟩ := dn_bits hst hn hk F
  refine mask_ext I.1 g1 fun j hj => ?_
  rw [Bool.eq_iff_iff, g2 j hj]
  constructor
  · intro h
    obtain ⟨y, e1, e2, e3, e4⟩ := climb hst I _ (Nat.le_refl _) hj h
    have := h1 y e1 e2 e3
    subst this
    exact e4.elim .inr .inl
  · rintro (h | rfl)
    · exact idl_t hst I h hb
    · exact hb
end
end
section
section
variable {n : Nat} {lo : Loc} {hb hp : AH} {Q : Fl → St → Prop} {E : Ex → St → Prop} {rest : SP}
noncomputable def lwCells : SP := (sFor (iRange (lCons (pBi opLen (lCons (pName 0) lNil)) lNil)) (aName 2) (sAugItem iAdd (pName 1) (pBin opMod (pName 2) (pInt 6)) (pBin opItem (pName 0) (pName 2))))
/-- the cells and the size -/
theorem lw_size {l : Addr} {ns : List Int} (hl : hp l = some (.flist (intsA ns))) (hns : ns.length ≤ 63) (l0 : lo 0 = some (.ref l))
    (k : ∀ lo' hb' hp' lc cs n, Ext hb' hp' → lo' 1 = some (.ref lc) → hb' lc = some (.list (intsA cs)) → cs.length = 6 → lo' 3 = some (.int (n : Nat)) → 2 ≤ n → n ≤ 5 → rest Q E ⟨lo', hp'⟩) :
    (sSeq (sAssign (pList (lCons (pInt 15) (lCons (pInt 21) (lCons (pInt 22) (lCons (pInt 9) (lCons (pInt 0) (lCons (pInt 6) lNil))))))) (aName 1)) (sSeq lwCells (sSeq (sAssign (pBin opAdd (pInt 2) (pBin opMod (pBin opAdd (pBi opSum (lCons (pName 0) lNil)) (pInt 3)) (pInt 4))) (aName 3)) rest))) Q E ⟨lo, hp⟩ := by
  refine s_new (hb := hp) (R := VI) (xs := [15, 21, 22, 9, 0, 6]) (zi_cons z_int (zi_cons z_int (zi_cons z_int (zi_cons z_int (zi_cons z_int (zi_cons z_int zi_nil)))))) (Ext.refl _) (by decide) fun hb1 hp1 c vs g1 zc hv => ?_
  rw [All2.ints.mp hv]
  have nc := g1.s.none zc
  have hl1 := g1.b _ _ hl
  refine s_next (s_for (hb := hb1) (zs_range (z_lenF (i := 0) l0 hl1) (by (first | lia | omega))) (ext_mut g1.s nc) fun hb2 hp2 g2 => ?_)
  obtain ⟨c1, c2⟩ := g2.keep (upd_self ..) nc
  refine ⟨fun i lo' hp' => (∀ j, j ≠ 2 → lo' j = setv lo 1 (.ref c) j) ∧ Ext hb2 hp' ∧ ∃ cs : List Int, hp' c = some (.list (intsA cs)) ∧ cs.length = 6, ⟨fun _ _ => rfl, g2.s, _, c1, rfl⟩, fun i lo' hp' h => h.2.1, ?_, ?_⟩
  · rintro i x v lo' hp' hi rfl ⟨f, e, cs, hc, hlen⟩
    obtain ⟨q, _⟩ := List.getElem?_eq_some_iff.mp hi
    rw [len_keysN] at q
    rw [get_keysN q] at hi
    cases hi
    have l0' : lo' 0 = some (.ref l) := (f 0 (by decide)).trans l0
    refine s_augItem (hb := hb2) (lo := setv lo' 2 (.int i)) (i := 1) (f 1 (by decide)) hc (z_mod (z_nameI rfl) z_int (by (first | lia | omega))) e (by (first | lia | omega)) (by (first | lia | omega)) (z_itemF (i := 0) l0' (g2.b _ _ hl1) (z_nameI rfl) (by (first | lia | omega)) (List.getElem?_eq_getElem (by (first | lia | omega) : (i : Int).toNat < ns.length))) fun hb3 hp3 g3 => ⟨fun j hj => (setv_ne _ _ hj).trans (f j hj), ?_, _, upd_self .., by rw [List.length_set, hlen]⟩
    exact ext_mut (g3.b.trans g3.s) c2
  · rintro lo' hp' ⟨f, e, cs, hc, hlen⟩
    have l0' : lo' 0 = some (.ref l) := (f 0 (by decide)).trans l0
    have e2 : Ext (upd hb2 c (.list (intsA cs))) hp' := fun a o h => by
      by_cases q : a = c
      · rw [q, upd_self] at h; rw [q, hc]; exact h
      · rw [upd_ne q] at h; exact e _ _ h
    have e3 := Ext.new (.list (intsA cs)) c2
    refine s_set (hb := upd hb2 c (.list (intsA cs))) (z_add z_int (z_mod (z_add (z_sumF (i := 0) l0' (e3 _ _ (g2.b _ _ hl1))) z_int) z_int (by (first | lia | omega)))) e2 fun hb4 hp4 v g4 hv => ?_
    obtain ⟨m, hm⟩ : ∃ m : Nat, 2 + (ns.sum + 3) % 4 = m := ⟨(2 + (ns.sum + 3) % 4).toNat, by (first | lia | omega)⟩
    rw [hm] at hv
    cases hv
    exact k _ hb4 hp4 c cs m g4.s (f 1 (by decide)) (g4.b _ _ (upd_self ..)) hlen rfl (by (first | lia | omega)) (by (first | lia | omega))
variable {st : List (Int × Int)} (hst : ∀ p ∈ st, p.1 ∈ keysN n ∧ p.2 ∈ keysN n)
noncomputable abbrev ahL (n : Nat) (A : Int → Nat) : List Int := (keysN n).map fun k => (A k : Int)
noncomputable def lwPass : SP := (sFor (iSeq (pName 4)) (aTuple [7, 8]) (sAssign (pBin opOr (pBin opOr (pBin opItem (pName 5) (pName 8)) (pBin opItem (pName 5) (pName 7))) (pBin opPow (pInt 2) (pName 7))) (aItem (pName 5) (pName 8))))
theorem pw_cast (k : Int) : (2 : Int) ^ k.toNat = ((pw k : Nat) : Int) := by unfold pw; rw [Int.natCast_pow]; rfl
theorem ext_know {a : Addr} {o : AObj} (e : Ext hb hp) (h : hp a = some o) : Ext (upd hb a o) hp := fun c o' q => by
  by_cases w : c = a
  · rw [w, upd_self] at q; rw [w, h]; exact q
  · rw [upd_ne w] at q; exact e _ _ q
include hst in
theorem lw_pass {A : Int → Nat} {la : Addr} {v4 : AV} (hn : n ≤ 5) (s : Ext hb hp) (nl : hb la = none) (ha : hp la = some (.list (intsA (ahL n A)))) (l4 : lo 4 = some v4) (hv4 : (VL VII).r st v4 hb) (l5 : lo 5 = some (.ref la))
    (k : ∀ lo' hp', (∀ j, j ≠ 7 → j ≠ 8 → lo' j = lo j) → Ext hb hp' → hp' la = some (.list (intsA (ahL n (pass A st)))) → Q .next ⟨lo', hp'⟩) : lwPass Q E ⟨lo, hp⟩ := by
  refine s_for (hb := hb) (zs_list (z_name l4 hv4)) s fun hb1 hp1 g1 => ?_
  obtain ⟨a1, a2⟩ := g1.keep ha nl
  refine ⟨fun i lo' hp' => (∀ j, j ≠ 7 → j ≠ 8 → lo' j = lo j) ∧ Ext hb1 hp' ∧ hp' la = some (.list (intsA (ahL n (pass A (st.take i))))), ⟨fun _ _ _ => rfl, g1.s, a1⟩, fun i lo' hp' h => h.2.1, ?_, ?_⟩
  · rintro i ⟨x, y⟩ w lo2 hp2 hi ⟨a, u, w, rfl, hat, rfl, rfl⟩ ⟨f, e, hla⟩
    obtain ⟨kx, ky⟩ := hst _ (List.mem_of_getElem? hi)
    have hx := mem_keysN.mp kx
    have hy := mem_keysN.mp ky
    refine ⟨_, e _ _ hat, rfl, ?_⟩
    have l5' : setvs lo2 [7, 8] [.int x, .int y] 5 = some (.ref la) := (f 5 (by decide) (by decide)).trans l5
    have e2 := ext_know e hla
    have zl : ∀ {j : Nat}, Z (pName 5) (VL VI) (ahL n (pass A (st.take i))) (setvs lo2 [7, 8] [.int x, .int y]) (upd hb1 la (.list (intsA (ahL n (pass A (st.take i)))))) := z_nameL l5' (upd_self ..)
    have zv : Z (pBin opOr (pBin opOr (pBin opItem (pName 5) (pName 8)) (pBin opItem (pName 5) (pName 7))) (pBin opPow (pInt 2) (pName 7))) VI ((upA (pass A (st.take i)) (x, y) y : Nat) : Int) (setvs lo2 [7, 8] [.int x, .int y]) (upd hb1 la (.list (intsA (ahL n (pass A (st.take i)))))) := by
      refine z_cast (z_or (z_or (z_keyItem (zl (j := 0)) (z_nameI rfl) ky) (z_keyItem (zl (j := 0)) (z_nameI rfl) kx)) (z_pow z_int (z_nameI rfl) (by (first | lia | omega)) (by (first | lia | omega)) (by decide))) ?_
      unfold upA
      rw [setI_self, pw_cast, bitOr_nat, bitOr_nat]
    refine s_item (hb := upd hb1 la (.list (intsA (ahL n (pass A (st.take i)))))) (i := 5) l5' hla zv (z_nameI (x := y) rfl) e2 (by (first | lia | omega)) (by rw [List.length_map, List.length_map, len_keysN]; (first | lia | omega)) fun hb3 hp3 v g3 hv => ?_
    cases hv
    refine ⟨fun j q1 q2 => (setv_ne _ _ q2).trans ((setv_ne _ _ q1).trans (f j q1 q2)), ext_mut ((Ext.new _ a2).trans (g3.b.trans g3.s)) a2, ?_⟩
    refine (upd_self ..).trans ?_
    rw [← intsA_set, set_keys ky]
    have e0 : st.take (i + 1) = st.take i ++ [(x, y)] := by rw [List.take_add_one, hi]; rfl
    have e1 : pass A (st.take (i + 1)) = upA (pass A (st.take i)) (x, y) := by unfold pass; rw [e0, List.foldl_append]; rfl
    rw [e1]
    have e2 : ∀ B : Int → Nat, (setI (fun k => (B k : Int)) y ((upA B (x, y) y : Nat) : Int)) = fun k => ((upA B (x, y) k : Nat) : Int) := fun B => by
      funext k
      unfold setI
      by_cases q : k = y
      · rw [if_pos q, q]
      · rw [if_neg q]; unfold upA; rw [setI_ne q]
    rw [e2]
  · rintro lo2 hp2 ⟨f, e, hla⟩
    rw [List.take_length] at hla
    exact k lo2 hp2 f (g1.b.trans e) hla
end
end
section
/-- what stands behind the first part of the law -/
structure LE (n : Nat) (st : List (Int × Int)) (cs rg fr : List Int) (lo : Loc) (hb : AH) : Prop where
  n2 : 2 ≤ n
  n5 : n ≤ 5
  hst : ∀ p ∈ st, p.1 ∈ keysN n ∧ p.2 ∈ keysN n
  hsl : st.length ≤ 8
  hcs : cs.length = 6
  x1 : ∃ a, lo 1 = some (.ref a) ∧ hb a = some (.list (intsA cs))
  l3 : lo 3 = some (.int n)
  x4 : ∃ v, lo 4 = some v ∧ (VL VII).r st v hb
  x5 : ∃ a, lo 5 = some (.ref a) ∧ hb a = some (.list (intsA (ahL n (ahd st n))))
  x9 : ∃ a, lo 9 = some (.ref a) ∧ hb a = some (.list (intsA rg))
  x10 : ∃ a, lo 10 = some (.ref a) ∧ hb a = some (.list (intsA fr))
  rgm : ∀ k, k ∈ rg ↔ k ∈ keysN n ∧ T st k k
  frm : ∀ k, k ∈ fr ↔ k ∈ keysN n ∧ Fre st n k
  frn : fr.Nodup
section
variable {n : Nat} {lo lo' : Loc} {hb hp hb' : AH} {Q : Fl → St → Prop} {E : Ex → St → Prop} {rest : SP} {st : List (Int × Int)} {cs rg fr : List Int}
theorem LE.ext (L : LE n st cs rg fr lo hb) (e : Ext hb hb') (f : ∀ j ∈ [1, 3, 4, 5, 9, 10], lo' j = lo j) : LE n st cs rg fr lo' hb' :=
  { L with
    x1 := by obtain ⟨a, h1, h2⟩ := L.x1; exact ⟨a, (f 1 (by decide)).trans h1, e _ _ h2⟩
    l3 := (f 3 (by decide)).trans L.l3
    x4 := by obtain ⟨a, h1, h2⟩ := L.x4; exact ⟨a, (f 4 (by decide)).trans h1, (VL VII).m e h2⟩
    x5 := by obtain ⟨a, h1, h2⟩ := L.x5; exact ⟨a, (f 5 (by decide)).trans h1, e _ _ h2⟩
    x9 := by obtain ⟨a, h1, h2⟩ := L.x9; exact ⟨a, (f 9 (by decide)).trans h1, e _ _ h2⟩
    x10 := by obtain ⟨a, h1, h2⟩ := L.x10; exact ⟨a, (f 10 (by decide)).trans h1, e _ _ h2⟩ }
theorem zt_bit {p q : EP} {m : Nat} {k : Int} (h1 : Z p VI m lo hb) (h2 : Z q VI k lo hb) (h0 : 0 ≤ k) : ZT (tOf (pBin opAnd (pBin opShr p q) (pInt 1))) (bit m k) lo hb := by
  refine zt_cast (zt_int (z_and (z_shr h1 h2 h0) z_int)) ?_
  rw [bit_one]
  unfold bit
  cases Nat.testBit m k.toNat <;> rfl
theorem lw_env {lc : Addr} (hn2 : 2 ≤ n) (hn5 : n ≤ 5) (s : Ext hb hp) (l1 : lo 1 = some (.ref lc)) (hc : hb lc = some (.list (intsA cs))) (hcs : cs.length = 6) (l3 : lo 3 = some (.int n))
    (k : ∀ lo' hb' hp' st rg fr, Ext hb' hp' → LE n st cs rg fr lo' hb' → rest Q E ⟨lo', hp'⟩) :
    (sSeq (sAssign (pCall fp_steps (lCons (pName 1) (lCons (pName 3) lNil))) (aName 4)) (sSeq (sAssign (pBin opMul (pList (lCons (pInt 0) lNil)) (pName 3)) (aName 5)) (sSeq (sFor (iRange (lCons (pName 3) lNil)) (aName 6) lwPass)
      (sSeq (sAssign (pComp [none, some 5] (iRange (lCons (pName 3) lNil)) (aName 0) (cTest (some (tOf (pBin opAnd (pBin opShr (pBin opItem (pName 1) (pName 0)) (pName 0)) (pInt 1)))) (cEmit (pName 0)))) (aName 9))
      (sSeq (sAssign (pComp [none, some 9, some 5] (iRange (lCons (pName 3) lNil)) (aName 0) (cTest (some (tAnd (tOf (pBin opNotIn (pName 0) (pName 1))) (tOf (pBin opEq (pComp [none, some 2, some 0] (iSeq (pName 1)) (aName 0) (cTest (some (tOf (pBin opAnd (pBin opShr (pBin opItem (pName 1) (pName 2)) (pName 0)) (pInt 1)))) (cEmit (pName 0)))) (pList lNil))))) (cEmit (pName 0)))) (aName 10)) rest))))) Q E ⟨lo, hp⟩ := by
  refine ⟨_, l1, _, l3, steps_spec (by (first | lia | omega)) (by (first | lia | omega)) s hc (by (first | lia | omega)) fun hb1 hp1 v4 st g1 hv4 hst hsl => ?_⟩
  refine ⟨by decide, fun z zz => ⟨_, l3, ?_⟩⟩
  have g2 := Gr.new g1.s (.list [.int 0]) zz
  refine ⟨_, upd_self .., by show 1 * (n : Int).toNat ≤ _; (first | lia | omega), by (first | lia | omega), by (first | lia | omega), fun la zl => ?_⟩
  have z2 := g2.s.none zl
  have e1 : (List.replicate (n : Int).toNat [AV.int 0]).flatten = intsA (ahL n (rounds st 0)) := flat_rep 0 n
  rw [e1]
  have s2 := ext_mut (o := .list (intsA (ahL n (rounds st 0)))) g2.s z2
  dsimp only
  refine s_next (s_for (lo := setv (setv lo 4 v4) 5 (.ref la)) (hb := upd hb1 z (.list [.int 0])) (zs_range (z_nameI (i := 3) (x := n) l3) (by (first | lia | omega))) s2 fun hb3 hp3 g3 => ?_)
  obtain ⟨a1, a2⟩ := g3.keep (upd_self ..) z2
  have hv4' := (VL VII).m (g2.b.trans g3.b) hv4
  refine ⟨fun t lo' hp' => (∀ j, j ≠ 6 → j ≠ 7 → j ≠ 8 → lo' j = setv (setv lo 4 v4) 5 (.ref la) j) ∧ Ext hb3 hp' ∧ hp' la = some (.list (intsA (ahL n (rounds st t)))), ⟨fun _ _ _ _ => rfl, g3.s, a1⟩, fun i lo' hp' h => h.2.1, ?_, ?_⟩
  · rintro t x v lo2 hp2 hi rfl ⟨f, e, hla⟩
    refine lw_pass (lo := setv lo2 6 (.int x)) hst hn5 e a2 hla (f 4 (by decide) (by decide) (by decide)) hv4' (f 5 (by decide) (by decide) (by decide)) fun lo3 hp3 f3 e3 hla3 => ⟨fun j q1 q2 q3 => (f3 j q2 q3).trans ((setv_ne _ _ q1).trans (f j q1 q2 q3)), e3, hla3⟩
  · rintro lo2 hp2 ⟨f, e, hla⟩
    rw [len_keysN] at hla
    have m1 : lo2 1 = some (.ref lc) := (f 1 (by decide) (by decide) (by decide)).trans l1
    have m3 : lo2 3 = some (.int n) := (f 3 (by decide) (by decide) (by decide)).trans l3
    have m4 : lo2 4 = some v4 := f 4 (by decide) (by decide) (by decide)
    have m5 : lo2 5 = some (.ref la) := f 5 (by decide) (by decide) (by decide)
    have e4 := ext_know e hla
    have x4 := Ext.new (.list (intsA (ahL n (rounds st n)))) a2
    have hla' : upd hb3 la (.list (intsA (ahL n (ahd st n)))) la = some (.list (intsA (ahL n (ahd st n)))) := upd_self ..
    have k5 : (keysN n).length < 1000000 := by rw [len_keysN]; (first | lia | omega)
    refine s_set (hb := upd hb3 la (.list (intsA (ahL n (ahd st n))))) (z_filt (b := fun x => bit (ahd st n x) x) (zs_range (z_nameI (i := 3) (x := n) m3) (by (first | lia | omega))) k5 fun x hx hb5 e5 => ?_) e4 fun hb5 hp5 v9 g5 hv9 => ?_
    · exact zt_bit (z_keyItem (z_nameL (i := 1) m5 (e5 _ _ hla')) (z_nameI rfl) hx) (z_nameI rfl) (mem_keysN.mp hx).1
    obtain ⟨lr, rfl, hlr⟩ := vl_ints.mp hv9
    have hla5 := g5.b _ _ hla'
    refine s_set (hb := hb5) (z_filt (b := fun x => !decide (x ∈ (keysN n).filter fun x => bit (ahd st n x) x) && decide ((((keysN n).filter fun x => bit (ahd st n x) x).filter fun y => bit (ahd st n x) y) = [])) (zs_range (z_nameI (i := 3) (x := n) m3) (by (first | lia | omega))) k5 fun x hx hb6 e6 => ?_) g5.s fun hb6 hp6 v10 g6 hv10 => ?_
    · refine zt_and (zt_bool (z_notIn (z_nameI rfl) (z_nameL (i := 1) rfl (e6 _ _ hlr)))) fun _ => zt_bool (z_eqL (z_filt (b := fun y => bit (ahd st n x) y) (zs_list (z_nameL (i := 1) rfl (e6 _ _ hlr))) (Nat.lt_of_le_of_lt (List.length_filter_le ..) k5) fun y hy hb7 e7 => ?_) (z_list zi_nil (by decide)))
      have hyk := (List.mem_filter.mp hy).1
      exact zt_bit (z_keyItem (z_nameL (i := 1) m5 (e7 _ _ (e6 _ _ hla5))) (z_nameI rfl) hx) (z_nameI rfl) (mem_keysN.mp hyk).1
    obtain ⟨lf, rfl, hlf⟩ := vl_ints.mp hv10
    have rgm : ∀ k, k ∈ ((keysN n).filter fun x => bit (ahd st n x) x) ↔ k ∈ keysN n ∧ T st k k := fun k => by
      rw [List.mem_filter]
      exact and_congr_right fun hk => ahd_bit hst hk
    refine k _ hb6 hp6 st ((keysN n).filter fun x => bit (ahd st n x) x) _ g6.s ⟨hn2, hn5, hst, by (first | lia | omega), hcs, ⟨lc, m1, ?_⟩, m3, ⟨v4, m4, (VL VII).m (x4.trans (g5.b.trans g6.b)) hv4'⟩, ⟨la, m5, g6.b _ _ hla5⟩, ⟨lr, rfl, g6.b _ _ hlr⟩, ⟨lf, rfl, hlf⟩, rgm, fun j => ?_, List.Pairwise.filter _ (nodup_keysN n)⟩
    · exact g6.b _ _ (g5.b _ _ (x4 _ _ (g3.b _ _ (g2.b _ _ (g1.b _ _ hc)))))
    · rw [List.mem_filter]
      refine and_congr_right fun hj => ?_
      rw [Bool.and_eq_true, Bool.not_eq_true', decide_eq_false_iff_not, decide_eq_true_eq, rgm j, List.filter_eq_nil_iff]
      constructor
      · rintro ⟨h1, h2⟩
        exact ⟨fun q => h1 ⟨hj, q⟩, fun x hx hxx q => h2 x ((rgm x).mpr ⟨hx, hxx⟩) ((ahd_bit hst hx).mpr q)⟩
      · rintro ⟨h1, h2⟩
        refine ⟨fun q => h1 q.2, fun x hx q => ?_⟩
        obtain ⟨g1, g2⟩ := (rgm x).mp hx
        exact h2 x g1 g2 ((ahd_bit hst g1).mp q)
end
end
section
noncomputable abbrev dec (p : Prop) : Bool := @decide p (Classical.propDecidable p)
theorem dec_iff {p : Prop} : dec p = true ↔ p := @decide_eq_true_iff p (Classical.propDecidable p)
noncomputable def namesOf (n m : Nat) : List Int := (keysN n).filter (bit m)
noncomputable def pc (n m : Nat) : Nat := (namesOf n m).length
noncomputable def rdyB (st : List (Int × Int)) (m : Nat) (k : Int) : Bool := !bit m k && decide ((st.filter fun p => decide (p.2 = k) && !bit m p.1) = [])
noncomputable def rdyL (st : List (Int × Int)) (n m : Nat) : List Int := (keysN n).filter (rdyB st m)
/-- the links from a set -/
noncomputable def lnk (st : List (Int × Int)) (n m i : Nat) : List (Int × Int) := ((keysN i).filter (rdyB st m)).map fun k => ((m : Int), ((m + pw k : Nat) : Int))
noncomputable def tabL (st : List (Int × Int)) (n : Nat) : Nat → List (Int × Int)
  | 0 => []
  | m + 1 => tabL st n m ++ (if dec (Idl st n m) then lnk st n m n else [])
/-- the keys that links make -/
noncomputable def KeysOf (keys : List Int) (L : List (Int × Int)) : Prop := keys.Nodup ∧ (∀ j, j ∈ keys ↔ j = 0 ∨ ∃ p ∈ L, j = p.2) ∧ ∀ p ∈ L, p.1 ∈ keys
section
variable {st : List (Int × Int)} {n m : Nat} {k : Int}
theorem rdyB_iff : rdyB st m k = true ↔ Rdy st m k := by
  unfold rdyB Rdy
  rw [Bool.and_eq_true, Bool.not_eq_true', decide_eq_true_eq, List.filter_eq_nil_iff]
  refine and_congr_right fun _ => ⟨fun h f hf => ?_, fun h p hp q => ?_⟩
  · have := h (f, k) hf
    simpa using this
  · rw [Bool.and_eq_true, decide_eq_true_eq, Bool.not_eq_true'] at q
    have := h p.1 (by rw [← q.1]; exact hp)
    rw [q.2] at this; cases this
theorem mem_lnk {i : Nat} {p : Int × Int} : p ∈ lnk st n m i ↔ ∃ k ∈ keysN i, Rdy st m k ∧ p = ((m : Int), ((m + pw k : Nat) : Int)) := by
  unfold lnk
  rw [List.mem_map]
  constructor
  · rintro ⟨k, h, rfl⟩
    obtain ⟨h1, h2⟩ := List.mem_filter.mp h
    exact ⟨k, h1, rdyB_iff.mp h2, rfl⟩
  · rintro ⟨k, h1, h2, rfl⟩
    exact ⟨k, List.mem_filter.mpr ⟨h1, rdyB_iff.mpr h2⟩, rfl⟩
theorem mem_tabL {p : Int × Int} : p ∈ tabL st n m ↔ ∃ v, v < m ∧ Idl st n v ∧ p ∈ lnk st n v n := by
  induction m with
  | zero => exact ⟨nofun, fun ⟨v, h, _⟩ => absurd h (Nat.not_lt_zero v)⟩
  | succ m ih =>
    unfold tabL
    rw [List.mem_append, ih]
    constructor
    · rintro (⟨v, h1, h2⟩ | h)
      · exact ⟨v, by (first | lia | omega), h2⟩
      · split at h
        · rename_i q; exact ⟨m, by (first | lia | omega), dec_iff.mp q, h⟩
        · cases h
    · rintro ⟨v, h1, h2, h3⟩
      by_cases q : v = m
      · subst q; exact .inr (by rw [if_pos (dec_iff.mpr h2)]; exact h3)
      · exact .inl ⟨v, by (first | lia | omega), h2, h3⟩
theorem lnk_succ {i : Nat} : lnk st n m (i + 1) = lnk st n m i ++ (if rdyB st m i then [((m : Int), ((m + pw i : Nat) : Int))] else []) := by
  unfold lnk
  rw [keysN_succ, List.filter_append, List.map_append]
  congr 1
  rw [List.filter_cons, List.filter_nil]
  split <;> rfl
theorem succ_setI {L : List (Int × Int)} {p : Int × Int} : succS (L ++ [p]) = setI (succS L) p.1 (succS L p.1 ++ [p.2]) := by
  funext k
  unfold succS setI
  rw [List.filter_append, List.map_append]
  by_cases q : k = p.1
  · rw [if_pos q, q]; simp
  · rw [if_neg q]; simp [Ne.symm q]
variable (hst : ∀ p ∈ st, p.1 ∈ keysN n ∧ p.2 ∈ keysN n) (hn : n ≤ 5)
include hst hn
theorem idl_iff : Idl st n m ↔ m = 0 ∨ ∃ p ∈ tabL st n m, (m : Int) = p.2 := by
  constructor
  · intro I
    by_cases q : m = 0
    · exact .inl q
    · obtain ⟨y, h1, h2, h3⟩ := has_top hst I q
      obtain ⟨g1, g2, g3⟩ := idl_sub hst hn I h1 h2 h3
      have : 0 < pw y := Nat.two_pow_pos _
      exact .inr ⟨((m - pw y : Nat), (m - pw y + pw y : Nat)), mem_tabL.mpr ⟨m - pw y, by (first | lia | omega), g1, mem_lnk.mpr ⟨y, h1, g2, rfl⟩⟩, by rw [g3]⟩
  · rintro (rfl | ⟨p, hp, e⟩)
    · exact idl_zero hst
    · obtain ⟨v, h1, h2, h3⟩ := mem_tabL.mp hp
      obtain ⟨k, g1, g2, rfl⟩ := mem_lnk.mp h3
      have : m = v + pw k := Int.ofNat_inj.mp e
      rw [this]
      exact idl_add hst hn h2 g1 g2
theorem in_book {keys : List Int} (K : KeysOf keys (tabL st n m)) : (m : Int) ∈ keys ↔ Idl st n m := by
  rw [K.2.1, idl_iff hst hn]
  exact or_congr_left (by (first | lia | omega))
/-- the row's test -/
theorem row_test {fr : List Int} (hm : m < 2 ^ n) (frm : ∀ k, k ∈ fr ↔ k ∈ keysN n ∧ Fre st n k) : ((namesOf n m).filter fun k => !decide (k ∈ fr) || !decide (((ahd st n k ||| m : Nat) : Int) = (m : Int))) = [] ↔ Idl st n m := by
  rw [List.filter_eq_nil_iff]
  have sub : ∀ k, ahd st n k ||| m = m ↔ ∀ x ∈ keysN n, T st x k → bit m x = true := fun k => by
    constructor
    · intro e x hx h
      rw [← e, bit_or, (ahd_bit hst hx).mpr h]; rfl
    · intro h
      refine mask_ext (or_lt (ahd_lt hst k) hm) hm fun j hj => ?_
      rw [bit_or]
      cases q : bit (ahd st n k) j with
      | false => rfl
      | true => rw [h j hj ((ahd_bit hst hj).mp q)]; rfl
  constructor
  · intro h
    refine ⟨hm, fun k hk hb => ?_⟩
    have := h k (List.mem_filter.mpr ⟨hk, hb⟩)
    rw [Bool.or_eq_true, Bool.not_eq_true', Bool.not_eq_true', decide_eq_false_iff_not, decide_eq_false_iff_not, not_or, Classical.not_not, Classical.not_not, Int.ofNat_inj, sub] at this
    exact ⟨((frm k).mp this.1).2, fun f hf => this.2 f (hst _ hf).1 (T.of hf)⟩
  · intro I k hk
    obtain ⟨h1, h2⟩ := List.mem_filter.mp hk
    rw [Bool.or_eq_true, Bool.not_eq_true', Bool.not_eq_true', decide_eq_false_iff_not, decide_eq_false_iff_not, not_or, Classical.not_not, Classical.not_not, Int.ofNat_inj, sub]
    exact ⟨(frm k).mpr ⟨h1, (I.2 k h1 h2).1⟩, fun x _ q => idl_t hst I q h2⟩
end
theorem KeysOf.link {keys : List Int} {L : List (Int × Int)} {p : Int × Int} (K : KeysOf keys L) (h : p.1 ∈ keys) : KeysOf (insK (insK keys p.1) p.2) (L ++ [p]) := by
  rw [insK_mem h]
  refine ⟨?_, fun j => ?_, fun q hq => ?_⟩
  · unfold insK
    split
    · exact K.1
    · rename_i q
      rw [List.nodup_append]
      exact ⟨K.1, by simp, fun a ha b hb e => q (by rw [← List.mem_singleton.mp hb, ← e]; exact ha)⟩
  · rw [mem_insK, K.2.1]
    constructor
    · rintro ((h | ⟨q, h1, h2⟩) | h)
      · exact .inl h
      · exact .inr ⟨q, List.mem_append_left _ h1, h2⟩
      · exact .inr ⟨p, by simp, h⟩
    · rintro (h | ⟨q, h1, h2⟩)
      · exact .inl (.inl h)
      · rcases List.mem_append.mp h1 with h1 | h1
        · exact .inl (.inr ⟨q, h1, h2⟩)
        · rw [List.mem_singleton.mp h1] at h2; exact .inr h2
  · rw [mem_insK]
    rcases List.mem_append.mp hq with hq | hq
    · exact .inl (K.2.2 q hq)
    · rw [List.mem_singleton.mp hq]; exact .inl h
section
variable {h0 hb hp w : AH} {X n2i : Addr} {keys : List Int} {L : List (Int × Int)} {cnt : Int → Int} {succ : Int → List Int}
/-- beside what another owns -/
theorem Gr.fr {hb' hp' : AH} (g : Gr hb hp hb' hp') (ew : Ext w hp) : Gr (uni hb w) hp (uni hb' w) hp' := by
  refine ⟨fun a o h => ?_, g.e, uni_s g.s (ew.trans g.e), fun a h1 h2 => ?_⟩
  · unfold uni at h ⊢
    cases q : hb a with
    | some o' => rw [q] at h; cases h; rw [g.b _ _ q]
    | none =>
      rw [q] at h
      cases q' : hb' a with
      | none => exact h
      | some o' => have := g.s _ _ q'; rw [g.e _ _ (ew _ _ h)] at this; exact this.symm ▸ rfl
  · unfold uni at h1 ⊢
    cases q : hb a with
    | some o' => rw [q] at h1; cases h1
    | none => rw [q] at h1; rw [g.n a q h2]; exact h1
/-- a known object that is none of the sorter's is changed -/
theorem BldN.touch {a : Addr} {o o' : AObj} (B : BldN h0 hb hp X n2i keys cnt succ) (ha : hb a = some o) (h0a : h0 a = none) : BldN h0 (upd hb a o') (upd hp a o') X n2i keys cnt succ := by
  obtain ⟨own, d, rec, suc, S, b⟩ := B
  have na : ¬ own a := fun q => by have := b.ob a q; rw [ha] at this; cases this
  have nx : X ≠ a := fun q => by have := b.xb; rw [q, ha] at this; cases this
  refine ⟨own, d, rec, suc, S.frame (o1 := fun c => c = a) (o2 := fun c => c = a) (fun c o e n => ⟨by rw [upd_ne n]; exact e, n⟩) (fun c hc q => na (q ▸ hc)) nx, b.e0.into h0a, fun c o e => ?_, b.o0, fun c hc => ?_, b.x0, ?_, b.xo⟩
  · by_cases q : c = a
    · rw [q, upd_self] at e ⊢; exact e
    · rw [upd_ne q] at e ⊢; exact b.s _ _ e
  · have q : c ≠ a := fun q => na (q ▸ hc)
    rw [upd_ne q]; exact b.ob c hc
  · rw [upd_ne nx]; exact b.xb
theorem b_link {Q : AV → AH → Prop} {E : Ex → AH → Prop} {one other : Int} (B : BldN h0 hb hp X n2i keys (cntS L) (succS L)) (hz : keys.length < 1000) (hs : L.length < 1000) (ne : one ≠ other)
    (k : ∀ hp', BldN h0 hb hp' X n2i (insK (insK keys one) other) (cntS (L ++ [(one, other)])) (succS (L ++ [(one, other)])) → Q .none hp') : fp_link [.ref n2i, .int one, .int other] Q E hp := by
  refine link_spec B hz (fun k => Nat.lt_of_le_of_lt (len_succS L k) hs) fun hp' B' => k hp' ?_
  rw [if_neg ne, if_neg ne] at B'
  rw [cntS_snoc, succ_setI]
  exact B'
theorem b_link0 {Q : AV → AH → Prop} {E : Ex → AH → Prop} {one : Int} (B : BldN h0 hb hp X n2i keys (cntS L) (succS L)) (hz : keys.length < 1000) (hs : L.length < 1000)
    (k : ∀ hp', BldN h0 hb hp' X n2i (insK keys one) (cntS L) (succS L) → Q .none hp') : fp_link [.ref n2i, .int one, .int one] Q E hp := by
  refine link_spec B hz (fun k => Nat.lt_of_le_of_lt (len_succS L k) hs) fun hp' B' => k hp' ?_
  rw [if_pos rfl, if_pos rfl, insK_mem (mem_insK.mpr (.inr rfl))] at B'
  exact B'
end
end
section
noncomputable def rowL (st : List (Int × Int)) (n m i : Nat) : List Int := ((List.range m).filter fun v => dec (Idl st n v) && pc n v == i).map fun v : Nat => (v : Int)
/-- what stands fast while the table is made -/
structure MF (n : Nat) (st : List (Int × Int)) (cs rg fr : List Int) (lo : Loc) (hb w : AH) (X n1 lr : Addr) (as : List Addr) : Prop where
  L : LE n st cs rg fr lo hb
  l11 : lo 11 = some (.ref X)
  l13 : lo 13 = some (.ref n1)
  l14 : lo 14 = some (.ref lr)
  hr : hb lr = some (.list (as.map .ref))
  la : as.length = n + 1
  nd : as.Nodup
  na : ∀ a ∈ as, hb a = none ∧ w a = none
/-- what changes -/
structure ML (st : List (Int × Int)) (n : Nat) (lo0 : Loc) (hb1 w0 : AH) (X n1 : Addr) (as : List Addr) (mr : Nat) (keys : List Int) (L : List (Int × Int)) (lo : Loc) (hb w hp : AH) : Prop where
  fl : ∀ j, j ≠ 15 → j ≠ 16 → j ≠ 17 → lo j = lo0 j
  e1 : Ext hb1 hb
  e0 : Ext w0 w
  ew : Ext w hp
  nw : ∀ a, w a ≠ none → hb a = none
  rw : ∀ i a, as[i]? = some a → w a = some (.list (intsA (rowL st n mr i)))
  B : BldN eH (uni hb w) hp X n1 keys (cntS L) (succS L)
section
variable {st : List (Int × Int)} {n mr m : Nat} {cs rg fr keys : List Int} {L : List (Int × Int)} {lo lo0 lo' : Loc} {hb hp hb1 w0 w hb' hp' : AH} {X n1 lr : Addr} {as : List Addr} {Q : Fl → St → Prop} {E : Ex → St → Prop}
theorem ML.na (M : ML st n lo0 hb1 w0 X n1 as mr keys L lo hb w hp) (a : Addr) (ha : a ∈ as) : hb a = none := by
  obtain ⟨i, hi⟩ := List.mem_iff_getElem?.mp ha
  exact M.nw a (by rw [M.rw i a hi]; nofun)
theorem ML.s (M : ML st n lo0 hb1 w0 X n1 as mr keys L lo hb w hp) : Ext hb hp := uni_l.trans M.B.s
theorem ML.gr (M : ML st n lo0 hb1 w0 X n1 as mr keys L lo hb w hp) (g : Gr hb hp hb' hp') (f : ∀ j, j ≠ 15 → j ≠ 16 → j ≠ 17 → lo' j = lo j) : ML st n lo0 hb1 w0 X n1 as mr keys L lo' hb' w hp' :=
  ⟨fun j a b c => (f j a b c).trans (M.fl j a b c), M.e1.trans g.b, M.e0, M.ew.trans g.e, fun a ha => g.n a (M.nw a ha) (M.ew.some ha), M.rw, M.B.gr (g.fr M.ew)⟩
theorem ML.loc (M : ML st n lo0 hb1 w0 X n1 as mr keys L lo hb w hp) (f : ∀ j, j ≠ 15 → j ≠ 16 → j ≠ 17 → lo' j = lo j) : ML st n lo0 hb1 w0 X n1 as mr keys L lo' hb w hp := M.gr (.refl M.s) f
theorem rowL_succ {i : Nat} : rowL st n (m + 1) i = rowL st n m i ++ (if dec (Idl st n m) && pc n m == i then [(m : Int)] else []) := by
  unfold rowL
  rw [List.range_succ, List.filter_append, List.map_append, List.filter_cons, List.filter_nil]
  congr 1
  split <;> rfl
theorem mem_names {k : Int} : k ∈ namesOf n m ↔ k ∈ keysN n ∧ bit m k = true := List.mem_filter
noncomputable def mkRow : SP := (sIf (tOf (pBin opEq (pComp [none, some 10, some 5, some 15] (iSeq (pName 16)) (aName 0) (cTest (some (tOr (tOf (pBin opNotIn (pName 0) (pName 1))) (tOf (pBin opNe (pBin opOr (pBin opItem (pName 2) (pName 0)) (pName 3)) (pName 3))))) (cEmit (pName 0)))) (pList lNil))) (sExpr (pBm "list" opAppend (pBin opItem (pName 14) (pBi opLen (lCons (pName 16) lNil))) (lCons (pName 15) lNil))) sNil)
theorem pc_le : pc n m ≤ n := by
  unfold pc namesOf
  have := List.length_filter_le (bit m) (keysN n)
  rw [len_keysN] at this; exact this
theorem uni_upd {a : Addr} {o' : AObj} (h : hb a = none) : uni hb (upd w a o') = upd (uni hb w) a o' := by
  funext c
  by_cases q : c = a
  · rw [q, upd_self]; unfold uni; rw [h, upd_self]
  · rw [upd_ne q]; unfold uni; rw [upd_ne q]
theorem rowL_len {i : Nat} : (rowL st n m i).length ≤ m := by
  unfold rowL
  rw [List.length_map]
  exact Nat.le_trans (List.length_filter_le ..) (by rw [List.length_range]; exact Nat.le_refl _)
theorem mk_row (F : MF n st cs rg fr lo0 hb1 w0 X n1 lr as) (M : ML st n lo0 hb1 w0 X n1 as m keys L lo hb w hp) (hm : m < 2 ^ n) (l15 : lo 15 = some (.int m)) {v : AV} (l16 : lo 16 = some v) (hv : (VL VI).r (namesOf n m) v hb)
    (k : ∀ hb' w' hp', Ext hb hb' → (VL VI).r (namesOf n m) v hb' → ML st n lo0 hb1 w0 X n1 as (m + 1) keys L lo hb' w' hp' → Q .next ⟨lo, hp'⟩) : mkRow Q E ⟨lo, hp⟩ := by
  have n5 := F.L.n5
  have p5 := pw5 n5
  obtain ⟨a5, m5, h5⟩ := F.L.x5
  obtain ⟨a10, m10, h10⟩ := F.L.x10
  have k5 : (namesOf n m).length < 1000000 := by have := pc_le (n := n) (m := m); unfold pc at this; (first | lia | omega)
  have f5 := (M.fl 5 (by decide) (by decide) (by decide)).trans m5
  have f10 := (M.fl 10 (by decide) (by decide) (by decide)).trans m10
  have f14 := (M.fl 14 (by decide) (by decide) (by decide)).trans F.l14
  refine s_if (hb := hb) (zt_bool (z_eqL (z_filt (b := fun x => !decide (x ∈ fr) || !decide (((ahd st n x ||| m : Nat) : Int) = (m : Int))) (zs_list (z_name l16 hv)) k5 fun x hx hb2 e2 => ?_) (z_list (R := VI) zi_nil (by decide)))) M.s (fun hc hb2 hp2 g2 => ?_) fun hc hb2 hp2 g2 => ?_
  · have hxk := (mem_names.mp hx).1
    refine zt_or (zt_bool (z_notIn (z_nameI rfl) (z_nameL (i := 1) f10 (e2 _ _ (M.e1 _ _ h10))))) fun _ => zt_bool (z_cast (z_ne (z_or (z_keyItem (z_nameL (i := 2) f5 (e2 _ _ (M.e1 _ _ h5))) (z_nameI rfl) hxk) (z_nameI (i := 3) l15)) (z_nameI (i := 3) l15)) ?_)
    rw [bitOr_nat]
  · rw [decide_eq_true_eq, row_test F.L.hst n5 hm F.L.frm] at hc
    have M2 := M.gr g2 fun _ _ _ _ => rfl
    have hv2 := (VL VI).m g2.b hv
    have hlen : pc n m < as.length := by have := pc_le (n := n) (m := m); rw [F.la]; (first | lia | omega)
    have ha : as[pc n m]? = some as[pc n m] := List.getElem?_eq_getElem hlen
    generalize as[pc n m] = a at ha
    have haa := M2.rw _ _ ha
    have hla := M2.ew _ _ haa
    have hmem := List.mem_of_getElem? ha
    obtain ⟨na1, na2⟩ := F.na a hmem
    obtain ⟨va, vvs, rfl, hva, hvr⟩ := hv2
    refine ⟨_, f14, _, l16, .inl ⟨vvs, lst_of (g2.s _ _ hva), _, item_list (M2.s _ _ (M2.e1 _ _ F.hr)) (by (first | lia | omega)) (v := .ref a) ?_, ⟨a, _, rfl, hla, rfl⟩, _, l15, _, hla, ?_, ?_⟩⟩
    · rw [hvr.len, List.getElem?_map]
      show Option.map _ (as[((pc n m : Nat) : Int).toNat]?) = _
      rw [Int.toNat_natCast, ha]; rfl
    · have := rowL_len (st := st) (n := n) (m := m) (i := pc n m)
      rw [List.length_map]; (first | lia | omega)
    · have e0 : intsA (rowL st n m (pc n m)) ++ [AV.int m] = intsA (rowL st n (m + 1) (pc n m)) := by
        rw [rowL_succ, if_pos (by rw [Bool.and_eq_true]; exact ⟨dec_iff.mpr hc, beq_self_eq_true _⟩)]
        exact (List.map_append (l₁ := rowL st n m (pc n m)) (l₂ := [(m : Int)])).symm
      dsimp only
      rw [e0]
      refine k hb2 (upd w a (.list (intsA (rowL st n (m + 1) (pc n m))))) _ g2.b ⟨va, vvs, rfl, hva, hvr⟩ ⟨M2.fl, M2.e1, M2.e0.into na2, ?_, fun c hc => ?_, fun i b hb => ?_, ?_⟩
      · intro c o q
        by_cases q2 : c = a
        · rw [q2, upd_self] at q ⊢; exact q
        · rw [upd_ne q2] at q ⊢; exact M2.ew _ _ q
      · by_cases q2 : c = a
        · rw [q2]; exact M2.na a hmem
        · rw [upd_ne q2] at hc; exact M2.nw c hc
      · by_cases q : b = a
        · subst q
          have : i = pc n m := by
            obtain ⟨li, ei⟩ := List.getElem?_eq_some_iff.mp hb
            exact (List.getElem?_inj li F.nd).mp (hb.trans ha.symm)
          rw [this, upd_self]
        · rw [upd_ne q, M2.rw i b hb]
          have : ¬ pc n m = i := fun e => q (by rw [← e, ha] at hb; exact (Option.some.inj hb).symm)
          rw [rowL_succ, if_neg (by simp [this]), List.append_nil]
      · rw [uni_upd (M2.na a hmem)]
        refine M2.B.touch (o := .list (intsA (rowL st n m (pc n m)))) ?_ rfl
        unfold uni; rw [M2.na a hmem]; exact haa
  · rw [decide_eq_false_iff_not, row_test F.L.hst n5 hm F.L.frm] at hc
    have M2 := M.gr g2 fun _ _ _ _ => rfl
    refine k hb2 w hp2 g2.b ((VL VI).m g2.b hv) { M2 with rw := fun i a h => ?_ }
    rw [rowL_succ, if_neg (by rw [Bool.and_eq_true, dec_iff]; exact fun q => hc q.1), List.append_nil]
    exact M2.rw i a h
end
end
section
section
variable {st : List (Int × Int)} {n mr m i : Nat} {cs rg fr keys : List Int} {L : List (Int × Int)} {lo lo0 lo' : Loc} {hb hp hb1 w0 w hb' hp' : AH} {X n1 lr : Addr} {as : List Addr} {Q : Fl → St → Prop} {E : Ex → St → Prop}
theorem KeysOf.len {B : Nat} (K : KeysOf keys L) (h : ∀ p ∈ L, 0 ≤ p.2 ∧ p.2 < B) (hB : 0 < B) : keys.length ≤ B := by
  have := len_sub (keys := keysN B) K.1 fun k hk => ?_
  · rwa [len_keysN] at this
  · rcases (K.2.1 k).mp hk with rfl | ⟨p, hp, rfl⟩
    · exact mem_keysN.mpr (by (first | lia | omega))
    · exact mem_keysN.mpr (h p hp)
theorem lnk_len : (lnk st n m i).length ≤ i := by
  unfold lnk
  rw [List.length_map]
  have := List.length_filter_le (rdyB st m) (keysN i)
  rw [len_keysN] at this; exact this
theorem tabL_len : (tabL st n m).length ≤ m * n := by
  induction m with
  | zero => exact Nat.zero_le _
  | succ m ih =>
    unfold tabL
    rw [List.length_append, Nat.succ_mul]
    have : (if dec (Idl st n m) = true then lnk st n m n else []).length ≤ n := by
      split
      · exact lnk_len
      · exact Nat.zero_le _
    (first | lia | omega)
theorem rdyB_eq {k : Int} (hst : ∀ p ∈ st, p.1 ∈ keysN n ∧ p.2 ∈ keysN n) (hk : k ∈ keysN n) : (!decide (k ∈ namesOf n m) && decide (((st.filter fun p => decide (p.2 = k) && !decide (p.1 ∈ namesOf n m)).map fun p => p.1) = [])) = rdyB st m k := by
  have e : ∀ j ∈ keysN n, decide (j ∈ namesOf n m) = bit m j := fun j hj => by
    rw [Bool.eq_iff_iff, decide_eq_true_eq, mem_names]
    exact ⟨fun h => h.2, fun h => ⟨hj, h⟩⟩
  unfold rdyB
  rw [e k hk]
  congr 1
  have : (st.filter fun p => decide (p.2 = k) && !decide (p.1 ∈ namesOf n m)) = st.filter fun p => decide (p.2 = k) && !bit m p.1 := List.filter_congr fun p hp => by rw [e p.1 (hst p hp).1]
  rw [this, Bool.eq_iff_iff, decide_eq_true_eq, decide_eq_true_eq, List.map_eq_nil_iff]
noncomputable def lkBody : SP := (sIf (tAnd (tOf (pBin opNotIn (pName 17) (pName 16))) (tOf (pBin opEq (pComp [none, none, some 17, some 16] (iSeq (pName 4)) (aTuple [0, 1]) (cTest (some (tAnd (tOf (pBin opEq (pName 1) (pName 2))) (tOf (pBin opNotIn (pName 0) (pName 3))))) (cEmit (pName 0)))) (pList lNil)))) (sExpr (pCall fp_link (lCons (pName 13) (lCons (pName 15) (lCons (pBin opAdd (pName 15) (pBin opPow (pInt 2) (pName 17))) lNil))))) sNil)
theorem lk_bound {p : Int × Int} (hst : ∀ p ∈ st, p.1 ∈ keysN n ∧ p.2 ∈ keysN n) (hn : n ≤ 5) (I : Idl st n m) (hp : p ∈ tabL st n m ++ lnk st n m n) : 0 ≤ p.2 ∧ p.2 < 2 ^ n := by
  have key : ∀ v, Idl st n v → p ∈ lnk st n v n → 0 ≤ p.2 ∧ p.2 < 2 ^ n := fun v Iv h => by
    obtain ⟨k, h1, h2, rfl⟩ := mem_lnk.mp h
    have := (idl_add hst hn Iv h1 h2).1
    refine ⟨Int.natCast_nonneg _, ?_⟩
    have h3 : ((v + pw k : Nat) : Int) < ((2 ^ n : Nat) : Int) := Int.ofNat_lt.mpr this
    simpa using h3
  rcases List.mem_append.mp hp with h | h
  · obtain ⟨v, _, h2, h3⟩ := mem_tabL.mp h
    exact key v h2 h3
  · exact key m I h
theorem lnk_sub {p : Int × Int} (hi : i ≤ n) (h : p ∈ lnk st n m i) : p ∈ lnk st n m n := by
  obtain ⟨k, h1, h2, rfl⟩ := mem_lnk.mp h
  exact mem_lnk.mpr ⟨k, mem_keysN.mpr (by have := mem_keysN.mp h1; (first | lia | omega)), h2, rfl⟩
theorem lk_body (F : MF n st cs rg fr lo0 hb1 w0 X n1 lr as) (M : ML st n lo0 hb1 w0 X n1 as mr keys (tabL st n m ++ lnk st n m i) lo hb w hp) (K : KeysOf keys (tabL st n m ++ lnk st n m i)) (hi : i < n) (I : Idl st n m)
    (l15 : lo 15 = some (.int m)) (l17 : lo 17 = some (.int i)) {v : AV} (l16 : lo 16 = some v) (hv : (VL VI).r (namesOf n m) v hb) (hmk : (m : Int) ∈ keys)
    (k : ∀ hb' hp' keys', Ext hb hb' → ML st n lo0 hb1 w0 X n1 as mr keys' (tabL st n m ++ lnk st n m (i + 1)) lo hb' w hp' → KeysOf keys' (tabL st n m ++ lnk st n m (i + 1)) → (m : Int) ∈ keys' → Q .next ⟨lo, hp'⟩) : lkBody Q E ⟨lo, hp⟩ := by
  have n5 := F.L.n5
  have p5 := pw5 n5
  have hst := F.L.hst
  have hsl := F.L.hsl
  obtain ⟨v4, m4, h4⟩ := F.L.x4
  have hik : (i : Int) ∈ keysN n := mem_keysN.mpr (by (first | lia | omega))
  have f4 := (M.fl 4 (by decide) (by decide) (by decide)).trans m4
  have f13 := (M.fl 13 (by decide) (by decide) (by decide)).trans F.l13
  have zb : ZT (tAnd (tOf (pBin opNotIn (pName 17) (pName 16))) (tOf (pBin opEq (pComp [none, none, some 17, some 16] (iSeq (pName 4)) (aTuple [0, 1]) (cTest (some (tAnd (tOf (pBin opEq (pName 1) (pName 2))) (tOf (pBin opNotIn (pName 0) (pName 3))))) (cEmit (pName 0)))) (pList lNil)))) (rdyB st m i) lo hb := by
    refine zt_cast (zt_and (zt_bool (z_notIn (z_nameI l17) (z_name l16 hv))) fun _ => zt_bool (z_eqL (z_compPF (R := VI) (R' := VI) (S := VI) (f := fun p => p.1) (b := fun p => decide (p.2 = (i : Int)) && !decide (p.1 ∈ namesOf n m)) (zs_list (z_name f4 ((VL VII).m M.e1 h4))) (by (first | lia | omega)) ?_ ?_) (z_list (R := VI) zi_nil (by decide)))) (rdyB_eq hst hik)
    · rintro ⟨x, y⟩ hx _ _ hb2 e2 rfl rfl
      exact zt_and (zt_bool (z_eq (z_nameI (i := 1) rfl) (z_nameI (i := 2) l17))) fun _ => zt_bool (z_notIn (z_nameI (i := 0) rfl) (z_name (i := 3) l16 ((VL VI).m e2 hv)))
    · rintro ⟨x, y⟩ hx _ _ _ hb2 e2 rfl rfl
      exact z_nameI (i := 0) rfl
  refine s_if zb M.s (fun hc hb2 hp2 g2 => ?_) fun hc hb2 hp2 g2 => ?_
  · have M2 := M.gr g2 fun _ _ _ _ => rfl
    have r := rdyB_iff.mp hc
    have e1 : (m : Int) + 2 ^ (i : Int).toNat = ((m + pw i : Nat) : Int) := by rw [pw_cast, Int.natCast_add]
    refine ⟨_, f13, _, l15, _, l15, _, l17, by (first | lia | omega), by (first | lia | omega), by decide, ?_⟩
    show fp_link [AV.ref n1, AV.int m, AV.int ((m : Int) + 2 ^ (i : Int).toNat)] (fun v hp' => Q .next ⟨lo, hp'⟩) (fun ex hp' => E ex ⟨lo, hp'⟩) hp2
    rw [e1]
    have hlt := (add_bits n5 I.1 hik r.1).1
    have hz : keys.length < 1000 := Nat.lt_of_le_of_lt (K.len (B := 32) (fun p hp => ?_) (by decide)) (by decide)
    · have hsz : (tabL st n m ++ lnk st n m i).length < 1000 := by
        rw [List.length_append]
        have h1 := tabL_len (st := st) (n := n) (m := m)
        have h2 := lnk_len (st := st) (n := n) (m := m) (i := i)
        have h3 : m * n ≤ 32 * 5 := Nat.mul_le_mul (by have := I.1; (first | lia | omega)) n5
        (first | lia | omega)
      refine b_link M2.B hz hsz (by (first | lia | omega)) fun hp3 B3 => ?_
      have e2 : tabL st n m ++ lnk st n m i ++ [((m : Int), ((m + pw i : Nat) : Int))] = tabL st n m ++ lnk st n m (i + 1) := by
        rw [lnk_succ, if_pos hc, List.append_assoc]
      rw [e2] at B3
      refine k hb2 hp3 _ g2.b ⟨M2.fl, M2.e1, M2.e0, uni_r (uni_l.trans M2.B.s) M2.ew |>.trans B3.s, M2.nw, M2.rw, B3⟩ (e2 ▸ K.link (p := ((m : Int), ((m + pw i : Nat) : Int))) hmk) ?_
      exact mem_insK.mpr (.inl (mem_insK.mpr (.inl hmk)))
    · have hp' : p ∈ tabL st n m ++ lnk st n m n := by
        rcases List.mem_append.mp hp with h | h
        · exact List.mem_append_left _ h
        · exact List.mem_append_right _ (lnk_sub (by (first | lia | omega)) h)
      have := lk_bound hst n5 I hp'
      have h3 : (2 : Int) ^ n ≤ 32 := by
        have h4 : ((2 ^ n : Nat) : Int) ≤ ((32 : Nat) : Int) := Int.ofNat_le.mpr p5
        simpa using h4
      (first | lia | omega)
  · have M2 := M.gr g2 fun _ _ _ _ => rfl
    have e2 : lnk st n m (i + 1) = lnk st n m i := by rw [lnk_succ, if_neg (by rw [hc]; decide), List.append_nil]
    rw [e2] at k
    exact k hb2 hp2 keys g2.b M2 K hmk
noncomputable def mkLink : SP := (sIf (tOf (pBin opIn (pName 15) (pName 13))) (sFor (iRange (lCons (pName 3) lNil)) (aName 17) lkBody) sNil)
theorem mk_link (F : MF n st cs rg fr lo0 hb1 w0 X n1 lr as) (M : ML st n lo0 hb1 w0 X n1 as mr keys (tabL st n m) lo hb w hp) (K : KeysOf keys (tabL st n m))
    (l15 : lo 15 = some (.int m)) {v : AV} (l16 : lo 16 = some v) (hv : (VL VI).r (namesOf n m) v hb)
    (k : ∀ lo' hb' hp' keys', Ext hb hb' → ML st n lo0 hb1 w0 X n1 as mr keys' (tabL st n (m + 1)) lo' hb' w hp' → KeysOf keys' (tabL st n (m + 1)) → Q .next ⟨lo', hp'⟩) : mkLink Q E ⟨lo, hp⟩ := by
  have n5 := F.L.n5
  have hst := F.L.hst
  have f13 := (M.fl 13 (by decide) (by decide) (by decide)).trans F.l13
  have f3 := (M.fl 3 (by decide) (by decide) (by decide)).trans F.L.l3
  obtain ⟨es, ep, e, h1, h2⟩ := M.B.dict
  refine ⟨_, l15, _, f13, .inr ⟨_, hasKey_dict (σ := ⟨lo, hp⟩) e, ?_⟩⟩
  rw [h1]
  show if _ then _ else _
  have hib := in_book hst n5 K
  by_cases q : (m : Int) ∈ keys
  · rw [if_pos (by simpa using q)]
    have I := hib.mp q
    have e0 : tabL st n (m + 1) = tabL st n m ++ lnk st n m n := by show _ ++ (if _ then _ else _) = _; rw [if_pos (dec_iff.mpr I)]
    rw [e0] at k
    refine s_for (hb := hb) (zs_range (z_nameI (i := 3) (x := n) f3) (by (first | lia | omega))) M.s fun hb2 hp2 g2 => ⟨fun i lo2 hp3 => i ≤ n ∧ lo2 15 = some (.int m) ∧ lo2 16 = some v ∧ ∃ hb3 keys3, Ext hb2 hb3 ∧ ML st n lo0 hb1 w0 X n1 as mr keys3 (tabL st n m ++ lnk st n m i) lo2 hb3 w hp3 ∧ KeysOf keys3 (tabL st n m ++ lnk st n m i) ∧ (m : Int) ∈ keys3, ?_, fun i lo2 hp3 h => ?_, ?_, ?_⟩
    · have e1 : tabL st n m ++ lnk st n m 0 = tabL st n m := List.append_nil _
      exact ⟨Nat.zero_le _, l15, l16, hb2, keys, Ext.refl _, e1.symm ▸ M.gr g2 fun _ _ _ _ => rfl, e1.symm ▸ K, q⟩
    · obtain ⟨_, _, _, hb3, keys3, e3, M3, _⟩ := h
      exact e3.trans M3.s
    · rintro i x u lo2 hp3 hi rfl ⟨hin, m15, m16, hb3, keys3, e3, M3, K3, q3⟩
      obtain ⟨hlt, _⟩ := List.getElem?_eq_some_iff.mp hi
      rw [len_keysN] at hlt
      rw [get_keysN hlt] at hi
      cases hi
      refine lk_body F (M3.loc (lo' := setv lo2 17 (.int i)) fun j _ _ h => setv_ne _ _ h) K3 hlt I m15 rfl m16 ((VL VI).m (g2.b.trans e3) hv) q3 fun hb4 hp4 keys4 e4 M4 K4 q4 => ⟨hlt, m15, m16, hb4, keys4, e3.trans e4, M4, K4, q4⟩
    · rintro lo2 hp3 ⟨_, m15, m16, hb3, keys3, e3, M3, K3, q3⟩
      rw [len_keysN] at M3 K3
      exact k lo2 hb3 hp3 keys3 (g2.b.trans e3) M3 K3
  · rw [if_neg (by simpa using q)]
    have e0 : tabL st n (m + 1) = tabL st n m := by show _ ++ (if _ then _ else _) = _; rw [if_neg (fun h => q (hib.mpr (dec_iff.mp h))), List.append_nil]
    rw [e0] at k
    exact k lo hb hp keys (Ext.refl _) M K
noncomputable def mkMasks : SP := (sFor (iRange (lCons (pBin opPow (pInt 2) (pName 3)) lNil)) (aName 15) (sSeq (sAssign (pComp [none, some 15] (iRange (lCons (pName 3) lNil)) (aName 0) (cTest (some (tOf (pBin opAnd (pBin opShr (pName 1) (pName 0)) (pInt 1)))) (cEmit (pName 0)))) (aName 16)) (sSeq mkRow mkLink)))
theorem mk_masks (F : MF n st cs rg fr lo0 hb1 w0 X n1 lr as) (M : ML st n lo0 hb1 w0 X n1 as 0 keys [] lo hb w hp) (K : KeysOf keys [])
    (k : ∀ lo' hb' w' hp' keys', ML st n lo0 hb1 w0 X n1 as (2 ^ n) keys' (tabL st n (2 ^ n)) lo' hb' w' hp' → KeysOf keys' (tabL st n (2 ^ n)) → Q .next ⟨lo', hp'⟩) : mkMasks Q E ⟨lo, hp⟩ := by
  have n5 := F.L.n5
  have p5 := pw5 n5
  have f3 := (M.fl 3 (by decide) (by decide) (by decide)).trans F.L.l3
  have zp : Z (pBin opPow (pInt 2) (pName 3)) VI ((2 ^ n : Nat) : Int) lo hb := z_cast (z_pow z_int (z_nameI (i := 3) f3) (by (first | lia | omega)) (by (first | lia | omega)) (by decide)) (by simp)
  refine s_for (hb := hb) (zs_range zp (by (first | lia | omega))) M.s fun hb2 hp2 g2 => ⟨fun i lo2 hp3 => ∃ hb3 w3 keys3, Ext hb2 hb3 ∧ ML st n lo0 hb1 w0 X n1 as i keys3 (tabL st n i) lo2 hb3 w3 hp3 ∧ KeysOf keys3 (tabL st n i), ⟨hb2, w, keys, Ext.refl _, M.gr g2 fun _ _ _ _ => rfl, K⟩, fun i lo2 hp3 h => by obtain ⟨hb3, w3, keys3, e3, M3, _⟩ := h; exact e3.trans M3.s, ?_, ?_⟩
  · rintro i x u lo2 hp3 hi rfl ⟨hb3, w3, keys3, e3, M3, K3⟩
    obtain ⟨hlt, _⟩ := List.getElem?_eq_some_iff.mp hi
    rw [len_keysN] at hlt
    rw [get_keysN hlt] at hi
    cases hi
    have M4 := M3.loc (lo' := setv lo2 15 (.int i)) fun j h _ _ => setv_ne _ _ h
    have f3' := (M4.fl 3 (by decide) (by decide) (by decide)).trans F.L.l3
    refine s_set (hb := hb3) (lo := setv lo2 15 (.int i)) (z_filt (b := bit i) (zs_range (z_nameI (i := 3) (x := n) f3') (by (first | lia | omega))) (by rw [len_keysN]; (first | lia | omega)) fun x hx hb5 e5 => zt_bit (z_nameI (i := 1) rfl) (z_nameI rfl) (mem_keysN.mp hx).1) M4.s fun hb5 hp5 v g5 hv => ?_
    have M5 := M4.gr (lo' := setv (setv lo2 15 (.int i)) 16 v) g5 fun j _ h _ => setv_ne _ _ h
    refine s_next (mk_row F M5 hlt rfl rfl hv fun hb6 w6 hp6 e6 hv6 M6 => ?_)
    exact mk_link F M6 K3 rfl rfl hv6 fun lo7 hb7 hp7 keys7 e7 M7 K7 => ⟨hb7, w6, keys7, e3.trans (g5.b.trans (e6.trans e7)), M7, K7⟩
  · rintro lo2 hp3 ⟨hb3, w3, keys3, e3, M3, K3⟩
    rw [len_keysN] at M3 K3
    exact k lo2 hb3 w3 hp3 keys3 M3 K3
end
end
section
/-- a sorter that is being told, alone in a part of the heap -/
noncomputable def BS (w : AH) (x n2i : Addr) (keys : List Int) (cnt : Int → Int) (succ : Int → List Int) : Prop := ∃ own d rec suc, Srt w own x d n2i rec suc keys cnt succ .none 0 0 ∧ ¬ own x
section
variable {h0 hb hp w : AH} {X n2i : Addr} {keys : List Int} {cnt : Int → Int} {succ : Int → List Int} {own : Addr → Prop} {a : Addr}
theorem BldN.cut (B : BldN h0 hb hp X n2i keys cnt succ) : ∃ w, BS w X n2i keys cnt succ ∧ Ext w hp ∧ ∀ a, w a ≠ none → hb a = none ∧ h0 a = none := by
  obtain ⟨own, d, rec, suc, S, b⟩ := B
  refine ⟨cutH hp own X, ⟨own, d, rec, suc, S.frame cut_frm (fun a ha q => q (.inl ha)) fun q => q (.inr rfl), b.xo⟩, cut_ext, fun a ha => ?_⟩
  rcases cut_own ha with h | rfl
  · exact ⟨b.ob a h, b.o0 a h⟩
  · exact ⟨b.xb, b.x0⟩
theorem BS.put (B : BS w X n2i keys cnt succ) (ew : Ext w hp) (s : Ext hb hp) (e0 : Ext h0 hp) (dj : ∀ a, w a ≠ none → hb a = none ∧ h0 a = none) : BldN h0 hb hp X n2i keys cnt succ := by
  obtain ⟨own, d, rec, suc, S, xo⟩ := B
  exact ⟨own, d, rec, suc, S.ext ew, e0, s, fun a ha => (dj a (S.al a ha)).2, fun a ha => (dj a (S.al a ha)).1, (dj X (by rw [S.hx]; nofun)).2, (dj X (by rw [S.hx]; nofun)).1, xo⟩
end
section
variable {st : List (Int × Int)} {n : Nat} {cs rg fr : List Int} {lo : Loc} {hb hp : AH} {Q : Fl → St → Prop} {E : Ex → St → Prop} {rest : SP}
open Classical in
noncomputable def rowsH (w : AH) (as : List Addr) : AH := fun a => if a ∈ as then some (.list []) else w a
noncomputable def mkRows : EP := (pComp [none] (iRange (lCons (pBin opAdd (pName 3) (pInt 1)) lNil)) (aName 0) (cTest none (cEmit (pList lNil))))
theorem mk_rows {Q : AV → St → Prop} {E : Ex → St → Prop} (l3 : lo 3 = some (.int n)) (hn : n ≤ 5) (k : ∀ hp' (lr : Addr) (as : List Addr), hp lr = none → hp' lr = some (.list (as.map .ref)) → as.length = n + 1 → as.Nodup → lr ∉ as → (∀ a ∈ as, hp a = none ∧ hp' a = some (.list [])) → Ext hp hp' → Q (.ref lr) ⟨lo, hp'⟩) : mkRows Q E ⟨lo, hp⟩ := by
  have hr : rangeOf [.int ((n : Int) + 1)] = some (keysN (n + 1)) := by have := rangeOf_n (n := n + 1) (by (first | lia | omega)); rwa [Int.natCast_add] at this
  refine ⟨_, l3, _, hr, ?_⟩
  refine ⟨fun i acc σ => i ≤ n + 1 ∧ ∃ as : List Addr, acc = as.map .ref ∧ as.length = i ∧ as.Nodup ∧ (∀ a ∈ as, hp a = none ∧ σ.hp a = some (.list [])) ∧ Ext hp σ.hp, ⟨Nat.zero_le _, [], rfl, rfl, List.nodup_nil, nofun, Ext.refl _⟩, ?_⟩
  rintro i acc ⟨lo2, hp2⟩ ⟨hi, as, rfl, hlen, hnd, has, e⟩
  refine ⟨trivial, ?_⟩
  dsimp only at has e
  by_cases q : i < n + 1
  · have e1 : (intsA (keysN (n + 1)))[i]? = some (.int i) := by rw [List.getElem?_map, get_keysN q]; rfl
    rw [e1]
    refine ⟨by decide, fun a za => ⟨by rw [List.length_map]; (first | lia | omega), q, as ++ [a], by rw [List.map_append]; rfl, by rw [List.length_append, hlen]; rfl, ?_, ?_, ?_⟩⟩
    · rw [List.nodup_append]
      exact ⟨hnd, by simp, fun b hb c hc e => by rw [List.mem_singleton.mp hc] at e; rw [e] at hb; exact absurd (za.symm.trans (has a hb).2) nofun⟩
    · intro b hb
      rcases List.mem_append.mp hb with h | h
      · exact ⟨(has b h).1, (Ext.new _ za) _ _ (has b h).2⟩
      · rw [List.mem_singleton.mp h]; exact ⟨e.none za, upd_self ..⟩
    · exact e.trans (Ext.new _ za)
  · have e1 : (intsA (keysN (n + 1)))[i]? = none := List.getElem?_eq_none (by rw [List.length_map, len_keysN]; (first | lia | omega))
    rw [e1]
    intro lr zl
    refine k _ lr as (e.none zl) (upd_self ..) (by (first | lia | omega)) hnd (fun h => ?_) (fun a ha => ⟨(has a ha).1, (Ext.new _ zl) _ _ (has a ha).2⟩) (e.trans (Ext.new _ zl))
    exact absurd (zl.symm.trans (has lr h).2) nofun
theorem lw_table (L : LE n st cs rg fr lo hb) (s : Ext hb hp)
    (k : ∀ lo' hb' w w' hp' X n1 X2 n2 lr as keys, BS w X2 n2 [] (fun _ => 0) (fun _ => []) → (∀ a, w a ≠ none → hb' a = none) → MF n st cs rg fr lo' hb' w X n1 lr as → lo' 12 = some (.ref X2) → ML st n lo' hb' w X n1 as 0 keys [] lo' hb' w' hp' → KeysOf keys [] → rest Q E ⟨lo', hp'⟩) :
    (sSeq (sPair (lCons (pNewS fp_sorter lNil) (lCons (pNewS fp_sorter lNil) lNil)) [11, 12]) (sSeq (sAssign (pUn (opAttrS 0) (pName 11)) (aName 13)) (sSeq (sExpr (pCall fp_link (lCons (pName 13) (lCons (pInt 0) (lCons (pInt 0) lNil))))) (sSeq (sAssign mkRows (aName 14)) rest)))) Q E ⟨lo, hp⟩ := by
  dsimp only [sSeq, sPair, lCons]
  refine b_new (hb := hb) (h0 := eH) s eH_ext fun hp1 X B1 e1 => ?_
  refine b_new (hb := hp1) (h0 := eH) (Ext.refl _) eH_ext fun hp2 X2 B2 e2 => ⟨rfl, fun t zt => ?_⟩
  obtain ⟨own1, d1, n1, rec1, suc1, S1, b1⟩ := B1
  obtain ⟨own2, d2, n2, rec2, suc2, S2, b2⟩ := B2
  obtain ⟨w, W, ew, dj⟩ := BldN.cut (X := X2) (n2i := n2) ⟨own2, d2, rec2, suc2, S2, b2⟩
  have g1 : Gr hb hp1 (uni hb w) hp2 := ⟨uni_l, e2, uni_s (b1.s.trans e2) ew, fun a h1 h2 => by
    unfold uni; rw [h1]
    cases q : w a with
    | none => rfl
    | some o => exact absurd (dj a (by rw [q]; nofun)).1 h2⟩
  have N1 := BldN.gr (X := X) (n2i := n1) ⟨own1, d1, rec1, suc1, S1, b1⟩ g1
  have g2 := Gr.new (b1.s.trans e2) (.tup [.ref X, .ref X2]) zt
  have N2 := N1.gr (g2.fr ew)
  have hw : ∀ a, w a ≠ none → upd hb t (.tup [.ref X, .ref X2]) a = none := fun a ha => by
    have h1 := (dj a ha).1
    have q : a ≠ t := fun q => ha (by rw [q]; exact ew.none zt)
    rw [upd_ne q]; exact b1.s.none h1
  have ew2 := ew.trans g2.e
  generalize upd hb t (.tup [.ref X, .ref X2]) = hb3 at g2 N2 hw
  dsimp only
  generalize upd hp2 t (.tup [.ref X, .ref X2]) = hp3 at g2 N2 ew2
  have N2' := N2
  obtain ⟨own3, d3, rec3, suc3, S3, b3⟩ := N2'
  refine ⟨_, rfl, d3, _, _, S3.hx, S3.hd, rfl, ?_⟩
  refine ⟨_, rfl, ?_⟩
  dsimp only [lCons, pInt, lNil]
  refine b_link0 (L := []) (one := 0) (n2i := n1) (keys := []) N2 (by decide) (by decide) fun hp4 B4 => ?_
  have ew4 : Ext w hp4 := (uni_r (g2.s) ew2).trans B4.s
  have s4 : Ext hb3 hp4 := uni_l.trans B4.s
  refine mk_rows (n := n) L.l3 L.n5 fun hp5 lr as zl hl hlen hnd hla has e5 => ?_
  have zb := s4.none zl
  have x5 := Ext.new (.list (as.map .ref)) zb
  have hw5 : ∀ a, w a ≠ none → upd hb3 lr (.list (as.map .ref)) a = none := fun a ha => by
    have q : a ≠ lr := fun q => ha (by rw [q]; exact ew4.none zl)
    rw [upd_ne q]; exact hw a ha
  have s5 : Ext (upd hb3 lr (.list (as.map .ref))) hp5 := ext_know (s4.trans e5) hl
  have wr : Ext (rowsH w as) hp5 := fun a o h => by
    unfold rowsH at h
    split at h
    · rename_i q; cases h; exact (has a q).2
    · exact e5 _ _ (ew4 _ _ h)
  have naw : ∀ a ∈ as, w a = none := fun a ha => ew4.none (has a ha).1
  have nab : ∀ a ∈ as, upd hb3 lr (.list (as.map .ref)) a = none := fun a ha => by
    have q : a ≠ lr := fun q => hla (q ▸ ha)
    rw [upd_ne q]; exact s4.none (has a ha).1
  have g5 : Gr (uni hb3 w) hp4 (uni (upd hb3 lr (.list (as.map .ref))) (rowsH w as)) hp5 := by
    refine ⟨fun a o h => ?_, e5, uni_s s5 wr, fun a h1 h2 => ?_⟩
    · unfold uni at h ⊢
      cases q : hb3 a with
      | some o' => rw [q] at h; cases h; rw [x5 _ _ q]
      | none =>
        rw [q] at h
        have q2 : a ≠ lr := fun e => by rw [e, ew4.none zl] at h; cases h
        have q3 : a ∉ as := fun e => by rw [naw a e] at h; cases h
        rw [upd_ne q2, q]
        show rowsH w as a = _
        unfold rowsH
        rw [if_neg q3]; exact h
    · unfold uni at h1 ⊢
      cases q : hb3 a with
      | some o' => rw [q] at h1; cases h1
      | none =>
        rw [q] at h1
        have q2 : a ≠ lr := fun e => h2 (by rw [e]; exact zl)
        have q3 : a ∉ as := fun e => h2 (has a e).1
        rw [upd_ne q2, q]
        show rowsH w as a = _
        unfold rowsH
        rw [if_neg q3]; exact h1
  refine k _ (upd hb3 lr (.list (as.map .ref))) w (rowsH w as) hp5 X n1 X2 n2 lr as [0] W hw5 ⟨L.ext (g2.b.trans x5) ?_, rfl, rfl, rfl, upd_self .., hlen, hnd, fun a ha => ⟨nab a ha, naw a ha⟩⟩ rfl ⟨fun _ _ _ _ => rfl, Ext.refl _, ?_, wr, fun a ha => ?_, fun i a h => ?_, B4.gr g5⟩ ⟨by simp, fun j => by simp, nofun⟩
  · intro j hj
    simp only [List.mem_cons, List.not_mem_nil, or_false] at hj
    rcases hj with rfl | rfl | rfl | rfl | rfl | rfl <;> rfl
  · intro a o h
    have q3 : a ∉ as := fun e => by rw [naw a e] at h; cases h
    unfold rowsH
    rw [if_neg q3]; exact h
  · by_cases q3 : a ∈ as
    · exact nab a q3
    · unfold rowsH at ha
      rw [if_neg q3] at ha
      exact hw5 a ha
  · have ha := List.mem_of_getElem? h
    unfold rowsH
    rw [if_pos ha]; rfl
end
end
section
/-- the list in order -/
noncomputable def srtL (l : List Int) : List Int := l.mergeSort fun a b => decide (a ≤ b)
theorem srtL_perm (l : List Int) : (srtL l).Perm l := List.mergeSort_perm ..
theorem srtL_sorted (l : List Int) : (srtL l).Pairwise (· ≤ ·) := by
  have := List.pairwise_mergeSort (le := fun a b : Int => decide (a ≤ b)) (fun a b c h1 h2 => by rw [decide_eq_true_eq] at *; (first | lia | omega)) (fun a b => by rw [Bool.or_eq_true, decide_eq_true_eq, decide_eq_true_eq]; (first | lia | omega)) l
  exact this.imp fun h => by simpa using h
theorem pw_inj {k j : Int} (hk : 0 ≤ k) (hj : 0 ≤ j) (h : pw k = pw j) : k = j := by
  have := (Nat.pow_right_inj (by decide : 1 < 2)).mp h
  (first | lia | omega)
theorem nodup_map {α β : Type} {f : α → β} {l : List α} (h : ∀ a ∈ l, ∀ b ∈ l, f a = f b → a = b) (hl : l.Nodup) : (l.map f).Nodup := by
  induction l with
  | nil => exact List.nodup_nil
  | cons a l ih =>
    rw [List.nodup_cons] at hl
    rw [List.map_cons, List.nodup_cons]
    refine ⟨fun q => ?_, ih (fun x hx y hy => h x (List.mem_cons_of_mem _ hx) y (List.mem_cons_of_mem _ hy)) hl.2⟩
    obtain ⟨b, hb, e⟩ := List.mem_map.mp q
    exact hl.1 (h b (List.mem_cons_of_mem _ hb) a (List.mem_cons_self ..) e ▸ hb)
section
variable {st : List (Int × Int)} {n m : Nat}
theorem lnk_nodup : (lnk st n m n).Nodup := by
  unfold lnk
  refine nodup_map ?_ (List.Pairwise.filter _ (nodup_keysN n))
  intro a ha b hb e
  have h1 := (mem_keysN.mp (List.mem_filter.mp ha).1).1
  have h2 := (mem_keysN.mp (List.mem_filter.mp hb).1).1
  have h3 : m + pw a = m + pw b := Int.ofNat_inj.mp (Prod.mk.inj e).2
  exact pw_inj h1 h2 (by (first | lia | omega))
theorem tabL_nodup : (tabL st n m).Nodup := by
  induction m with
  | zero => exact List.nodup_nil
  | succ m ih =>
    unfold tabL
    rw [List.nodup_append]
    refine ⟨ih, ?_, fun a ha b hb e => ?_⟩
    · split
      · exact lnk_nodup
      · exact List.nodup_nil
    · subst e
      obtain ⟨v, h1, _, h2⟩ := mem_tabL.mp ha
      obtain ⟨k, _, _, e1⟩ := mem_lnk.mp h2
      split at hb
      · obtain ⟨k', _, _, e2⟩ := mem_lnk.mp hb
        rw [e1] at e2
        have := Int.ofNat_inj.mp (Prod.mk.inj e2).1
        (first | lia | omega)
      · cases hb
variable (hst : ∀ p ∈ st, p.1 ∈ keysN n ∧ p.2 ∈ keysN n) (hn : n ≤ 5)
include hst hn
theorem mem_TL {p : Int × Int} : p ∈ tabL st n (2 ^ n) ↔ ∃ v k, Idl st n v ∧ k ∈ keysN n ∧ Rdy st v k ∧ p = ((v : Int), ((v + pw k : Nat) : Int)) := by
  rw [mem_tabL]
  constructor
  · rintro ⟨v, _, h1, h2⟩
    obtain ⟨k, h3, h4, h5⟩ := mem_lnk.mp h2
    exact ⟨v, k, h1, h3, h4, h5⟩
  · rintro ⟨v, k, h1, h3, h4, h5⟩
    exact ⟨v, h1.1, h1, mem_lnk.mpr ⟨k, h3, h4, h5⟩⟩
theorem in_keys {keys : List Int} (K : KeysOf keys (tabL st n (2 ^ n))) {j : Int} : j ∈ keys ↔ ∃ m : Nat, j = m ∧ Idl st n m := by
  rw [K.2.1]
  constructor
  · rintro (rfl | ⟨p, hp, rfl⟩)
    · exact ⟨0, rfl, idl_zero hst⟩
    · obtain ⟨v, k, h1, h2, h3, rfl⟩ := (mem_TL hst hn).mp hp
      exact ⟨_, rfl, idl_add hst hn h1 h2 h3⟩
  · rintro ⟨m, rfl, I⟩
    rcases (idl_iff hst hn).mp I with rfl | ⟨p, hp, e⟩
    · exact .inl rfl
    · obtain ⟨v, h1, h2, h3⟩ := mem_tabL.mp hp
      exact .inr ⟨p, mem_tabL.mpr ⟨v, h2.1, h2, h3⟩, e⟩
theorem cnt_one {j : Int} : cntS (tabL st n (2 ^ n)) j = 1 ↔ ∃ k ∈ keysN n, Fre st n k ∧ j = (dn st n k : Nat) := by
  have hnd : ((tabL st n (2 ^ n)).filter (·.2 == j)).Nodup := List.Pairwise.filter _ tabL_nodup
  have hm : ∀ p, p ∈ (tabL st n (2 ^ n)).filter (·.2 == j) ↔ p ∈ tabL st n (2 ^ n) ∧ p.2 = j := fun p => by rw [List.mem_filter, beq_iff_eq]
  unfold cntS
  generalize (tabL st n (2 ^ n)).filter (·.2 == j) = F at hnd hm
  constructor
  · intro h
    obtain ⟨p, rfl⟩ := List.length_eq_one_iff.mp (by (first | lia | omega) : F.length = 1)
    obtain ⟨hp, rfl⟩ := (hm p).mp (List.mem_singleton.mpr rfl)
    obtain ⟨v, k, I, hk, r, e⟩ := (mem_TL hst hn).mp hp
    obtain ⟨t1, t2⟩ := top_of hst hn I hk r
    have I2 := idl_add hst hn I hk r
    have uni : ∀ y ∈ keysN n, bit (v + pw k) y = true → Top st n (v + pw k) y → y = k := fun y hy b1 b2 => by
      obtain ⟨s1, s2, s3⟩ := idl_sub hst hn I2 hy b1 b2
      have q := (hm ((v + pw k - pw y : Nat), (v + pw k - pw y + pw y : Nat))).mpr ⟨(mem_TL hst hn).mpr ⟨_, y, s1, hy, s2, rfl⟩, by rw [s3, e]⟩
      have q2 := List.mem_singleton.mp q
      rw [e] at q2
      have q3 := Int.ofNat_inj.mp (Prod.mk.inj q2).1
      have q4 := (sub_bits hn I2.1 hy b1).1
      exact pw_inj (mem_keysN.mp hy).1 (mem_keysN.mp hk).1 (by (first | lia | omega))
    obtain ⟨f1, f2⟩ := one_top hst hn I2 hk t1 t2 uni
    exact ⟨k, hk, f1, by rw [e, ← f2]⟩
  · rintro ⟨k, hk, Fk, rfl⟩
    have I := dn_idl hst hn hk Fk
    obtain ⟨b1, b2⟩ := (dn_top hst hn hk Fk hk).mpr rfl
    obtain ⟨s1, s2, s3⟩ := idl_sub hst hn I hk b1 b2
    have hp : (((dn st n k - pw k : Nat) : Int), ((dn st n k - pw k + pw k : Nat) : Int)) ∈ F := (hm _).mpr ⟨(mem_TL hst hn).mpr ⟨_, k, s1, hk, s2, rfl⟩, by rw [s3]⟩
    have hall : ∀ q ∈ F, q = (((dn st n k - pw k : Nat) : Int), ((dn st n k - pw k + pw k : Nat) : Int)) := fun q hq => by
      obtain ⟨h1, h2⟩ := (hm q).mp hq
      obtain ⟨v, y, I', hy, r, rfl⟩ := (mem_TL hst hn).mp h1
      have h3 : v + pw y = dn st n k := Int.ofNat_inj.mp h2
      obtain ⟨t1, t2⟩ := top_of hst hn I' hy r
      rw [h3] at t1 t2
      have := (dn_top hst hn hk Fk hy).mp ⟨t1, t2⟩
      subst this
      rw [s3, ← h3, Nat.add_sub_cancel]
    match F, hnd, hp, hall with
    | [p], _, _, _ => rfl
    | p :: q :: l, hnd, _, hall =>
      have := (List.nodup_cons.mp hnd).1
      rw [hall p (List.mem_cons_self ..), hall q (List.mem_cons_of_mem _ (List.mem_cons_self ..))] at this
      exact absurd (List.mem_cons_self ..) this
theorem dn_inj {k j : Int} (hk : k ∈ keysN n) (hj : j ∈ keysN n) (Fk : Fre st n k) (Fj : Fre st n j) (e : dn st n k = dn st n j) : k = j := by
  have := (dn_top hst hn hk Fk hk).mpr rfl
  rw [e] at this
  exact (dn_top hst hn hj Fj hk).mp this
theorem ones_perm {keys fr : List Int} (K : KeysOf keys (tabL st n (2 ^ n))) (frm : ∀ k, k ∈ fr ↔ k ∈ keysN n ∧ Fre st n k) (frn : fr.Nodup) : (keys.filter fun j => decide (cntS (tabL st n (2 ^ n)) j = 1)).Perm (fr.map fun k => (dn st n k : Int)) := by
  refine (List.perm_ext_iff_of_nodup (List.Pairwise.filter _ K.1) (nodup_map ?_ frn)).mpr fun j => ?_
  · intro a ha b hb e
    obtain ⟨a1, a2⟩ := (frm a).mp ha
    obtain ⟨b1, b2⟩ := (frm b).mp hb
    exact dn_inj hst hn a1 b1 a2 b2 (Int.ofNat_inj.mp e)
  · rw [List.mem_filter, decide_eq_true_eq, cnt_one hst hn, in_keys hst hn K, List.mem_map]
    constructor
    · rintro ⟨_, k, h1, h2, rfl⟩; exact ⟨k, (frm k).mpr ⟨h1, h2⟩, rfl⟩
    · rintro ⟨k, hk, rfl⟩
      obtain ⟨h1, h2⟩ := (frm k).mp hk
      exact ⟨⟨_, rfl, dn_idl hst hn h1 h2⟩, k, h1, h2, rfl⟩
end
end
section
/-- behind the loop that makes the table -/
structure TB (n : Nat) (st : List (Int × Int)) (cs rg fr : List Int) (lo : Loc) (hb w hp : AH) (X n1 X2 n2 lr : Addr) (keys : List Int) : Prop where
  L : LE n st cs rg fr lo hb
  l11 : lo 11 = some (.ref X)
  l12 : lo 12 = some (.ref X2)
  l13 : lo 13 = some (.ref n1)
  l14 : lo 14 = some (.ref lr)
  rows : (VL (VL VI)).r ((List.range (n + 1)).map (rowL st n (2 ^ n))) (.ref lr) hb
  B : BldN eH (uni hb w) hp X n1 keys (cntS (tabL st n (2 ^ n))) (succS (tabL st n (2 ^ n)))
  K : KeysOf keys (tabL st n (2 ^ n))
  W : BS w X2 n2 [] (fun _ => 0) (fun _ => [])
  ew : Ext w hp
  nw : ∀ a, w a ≠ none → hb a = none
open Classical in
noncomputable def onlyH (w : AH) (as : List Addr) : AH := fun a => if a ∈ as then w a else none
section
variable {st : List (Int × Int)} {n : Nat} {cs rg fr keys : List Int} {lo lo0 : Loc} {hb hb1 w0 w hp : AH} {X n1 X2 n2 lr : Addr} {as : List Addr}
theorem all2_get {α : Type} {R : VR α} {hb : AH} : ∀ {l : List α} {vs : List AV}, vs.length = l.length → (∀ (i : Nat) (x : α) (v : AV), l[i]? = some x → vs[i]? = some v → R.r x v hb) → All2 R l vs hb
  | [], [], _, _ => trivial
  | x :: l, v :: vs, h, k => ⟨k 0 x v rfl rfl, all2_get (by simpa using h) fun i y u h1 h2 => k (i + 1) y u h1 h2⟩
  | [], _ :: _, h, _ => by simp at h
  | _ :: _, [], h, _ => by simp at h
theorem tb_of (F : MF n st cs rg fr lo0 hb1 w0 X n1 lr as) (l12 : lo0 12 = some (.ref X2)) (W : BS w0 X2 n2 [] (fun _ => 0) (fun _ => [])) (M : ML st n lo0 hb1 w0 X n1 as (2 ^ n) keys (tabL st n (2 ^ n)) lo hb w hp) (K : KeysOf keys (tabL st n (2 ^ n))) : ∃ hb', TB n st cs rg fr lo hb' w0 hp X n1 X2 n2 lr keys := by
  have fl : ∀ j, j ≠ 15 → j ≠ 16 → j ≠ 17 → lo j = lo0 j := M.fl
  have e1 : Ext hb (uni hb (onlyH w as)) := uni_l
  have hin : ∀ a ∈ as, uni hb (onlyH w as) a = w a := fun a ha => by
    unfold uni; rw [M.na a ha]; show onlyH w as a = _; unfold onlyH; rw [if_pos ha]
  have hout : ∀ a, a ∉ as → uni hb (onlyH w as) a = hb a := fun a ha => by
    unfold uni
    cases q : hb a with
    | some o => rfl
    | none => show onlyH w as a = _; unfold onlyH; rw [if_neg ha]
  have sub : Ext (uni (uni hb (onlyH w as)) w0) (uni hb w) := fun a o h => by
    by_cases q : a ∈ as
    · unfold uni at h
      have h1 := hin a q
      unfold uni at h1
      have h2 := M.na a q
      obtain ⟨i, hi⟩ := List.mem_iff_getElem?.mp q
      have h3 := M.rw i a hi
      rw [h2] at h h1
      dsimp only at h h1
      rw [h1, h3] at h
      unfold uni
      rw [h2]; dsimp only; rw [h3]; exact h
    · have h1 := hout a q
      unfold uni at h ⊢
      unfold uni at h1
      cases q2 : hb a with
      | some o' => rw [q2] at h; exact h
      | none =>
        rw [q2] at h h1
        dsimp only at h h1 ⊢
        rw [h1] at h
        exact M.e0 _ _ h
  refine ⟨uni hb (onlyH w as), F.L.ext (M.e1.trans e1) fun j hj => ?_, (fl 11 (by decide) (by decide) (by decide)).trans F.l11, (fl 12 (by decide) (by decide) (by decide)).trans l12, (fl 13 (by decide) (by decide) (by decide)).trans F.l13, (fl 14 (by decide) (by decide) (by decide)).trans F.l14, ⟨lr, _, rfl, e1 _ _ (M.e1 _ _ F.hr), ?_⟩, M.B.less (Ext.refl _) sub, K, W, M.e0.trans M.ew, fun a ha => ?_⟩
  · simp only [List.mem_cons, List.not_mem_nil, or_false] at hj
    rcases hj with rfl | rfl | rfl | rfl | rfl | rfl <;> exact fl _ (by decide) (by decide) (by decide)
  · refine all2_get (by rw [List.length_map, List.length_map, List.length_range, F.la]) fun i l v h1 h2 => ?_
    rw [List.getElem?_map] at h1 h2
    obtain ⟨a, ha, rfl⟩ := Option.map_eq_some_iff.mp h2
    obtain ⟨j, hj, rfl⟩ := Option.map_eq_some_iff.mp h1
    obtain ⟨q, e⟩ := List.getElem?_eq_some_iff.mp hj
    rw [List.getElem_range] at e
    subst e
    exact vl_ints.mpr ⟨a, rfl, by rw [hin a (List.mem_of_getElem? ha)]; exact M.rw i a ha⟩
  · have q : a ∉ as := fun q => ha (F.na a q).2
    rw [hout a q]
    exact M.nw a (M.e0.some ha)
end
section
variable {p q : EP} {lo : Loc} {hb hp : AH} {own : Addr → Prop} {x d n2i : Addr} {rec suc : Int → Addr} {keys : List Int} {cnt : Int → Int} {succ : Int → List Int} {rdy : AV} {np nf : Int} {i : Nat} {k : Int}
theorem zs_dict (S : Srt hb own x d n2i rec suc keys cnt succ rdy np nf) (l : lo i = some (.ref n2i)) : ZS (iSeq (pName i)) VI keys lo hb := fun hp s Q E kk => by
  obtain ⟨ep, e⟩ := S.hn
  refine ⟨_, l, n2i, rfl, .inr (.inr ⟨_, ep, s _ _ e, kk _ _ _ _ (.refl s) (All2.ints.mpr ?_) fun σ eσ => eσ _ _ e⟩)⟩
  rw [List.map_map]
  exact congrArg intsA (List.map_id _)
theorem z_cnt (S : Srt hb own x d n2i rec suc keys cnt succ rdy np nf) (l : lo i = some (.ref n2i)) (hq : Z q VI k lo hb) (hk : k ∈ keys) : Z (pUn (opAttrN 1) (pBin opItem (pName i) q)) VI (cnt k) lo hb := fun hp s Q E kk =>
  ⟨_, l, hq hp s _ _ fun hb2 hp2 v g hv => by
    cases hv
    have S2 := S.ext (g.b.trans g.s)
    obtain ⟨dk, ek, qk⟩ := S2.hr k hk
    exact ⟨_, S2.item (σ := ⟨lo, hp2⟩) hk, dk, _, _, ek, qk, rfl, kk _ _ _ g rfl⟩⟩
theorem z_suc (S : Srt hb own x d n2i rec suc keys cnt succ rdy np nf) (l : lo i = some (.ref n2i)) (hq : Z q VI k lo hb) (hk : k ∈ keys) : Z (pUn (opAttrN 2) (pBin opItem (pName i) q)) (VL VI) (succ k) lo hb := fun hp s Q E kk =>
  ⟨_, l, hq hp s _ _ fun hb2 hp2 v g hv => by
    cases hv
    have S2 := S.ext (g.b.trans g.s)
    obtain ⟨dk, ek, qk⟩ := S2.hr k hk
    exact ⟨_, S2.item (σ := ⟨lo, hp2⟩) hk, dk, _, _, ek, qk, rfl, kk _ _ _ g (vl_ints.mpr ⟨suc k, rfl, g.b _ _ (S.hs k hk)⟩)⟩⟩
end
section
variable {st : List (Int × Int)} {n : Nat} {cs rg fr keys : List Int} {lo : Loc} {hb w hp : AH} {X n1 X2 n2 lr : Addr} {Q : Fl → St → Prop} {E : Ex → St → Prop} {rest : SP}
noncomputable def lwOnes : EP := (pComp [none, some 13] (iSeq (pName 13)) (aName 0) (cTest (some (tOf (pBin opEq (pUn (opAttrN 1) (pBin opItem (pName 1) (pName 0))) (pInt 1)))) (cEmit (pName 0))))
/-- the known heap with the table in it -/
structure TK (n : Nat) (st : List (Int × Int)) (cs rg fr : List Int) (lo : Loc) (hb w1 hbT : AH) (X n1 : Addr) (keys : List Int) : Prop where
  L : LE n st cs rg fr lo hbT
  l13 : lo 13 = some (.ref n1)
  eb : Ext hb hbT
  e1 : Ext w1 hbT
  W : BS w1 X n1 keys (cntS (tabL st n (2 ^ n))) (succS (tabL st n (2 ^ n)))
  K : KeysOf keys (tabL st n (2 ^ n))
theorem TK.srt {w1 hbT : AH} (T : TK n st cs rg fr lo hb w1 hbT X n1 keys) : ∃ own d rec suc, Srt hbT own X d n1 rec suc keys (cntS (tabL st n (2 ^ n))) (succS (tabL st n (2 ^ n))) .none 0 0 := by
  obtain ⟨own, d, rec, suc, S, _⟩ := T.W
  exact ⟨own, d, rec, suc, S.ext T.e1⟩
theorem dn_cast (k : Int) : ((ahd st n k : Nat) : Int) + 2 ^ k.toNat = ((dn st n k : Nat) : Int) := by
  rw [pw_cast]; exact (Int.natCast_add ..).symm
theorem keys_len (hst : ∀ p ∈ st, p.1 ∈ keysN n ∧ p.2 ∈ keysN n) (hn : n ≤ 5) (K : KeysOf keys (tabL st n (2 ^ n))) : keys.length ≤ 32 := by
  have := len_sub (keys := keysN 32) K.1 fun k hk => ?_
  · rwa [len_keysN] at this
  · obtain ⟨m, rfl, I⟩ := (in_keys hst hn K).mp hk
    have := I.1
    have := pw5 hn
    exact mem_keysN.mpr (by (first | lia | omega))
theorem lw_ones {w1 hbT : AH} (T : TK n st cs rg fr lo hb w1 hbT X n1 keys) (s : Ext hbT hp)
    (k : ∀ hb' hp' v, Gr hbT hp hb' hp' → (VL VI).r (keys.filter fun j => decide (cntS (tabL st n (2 ^ n)) j = 1)) v hb' → rest Q E ⟨setv lo 18 v, hp'⟩) :
    (sSeq (sAssign lwOnes (aName 18)) (sSeq (sIf (tOf (pBin opNe (pBi opSorted (lCons (pName 18) lNil)) (pBi opSorted (lCons (pComp [none, some 5] (iSeq (pName 10)) (aName 0) (cTest none (cEmit (pBin opAdd (pBin opItem (pName 1) (pName 0)) (pBin opPow (pInt 2) (pName 0)))))) lNil)))) (sRet (pBool false)) sNil) rest)) Q E ⟨lo, hp⟩ := by
  have n5 := T.L.n5
  have hst := T.L.hst
  obtain ⟨own, d, rec, suc, S⟩ := T.srt
  obtain ⟨a5, m5, h5⟩ := T.L.x5
  obtain ⟨a10, m10, h10⟩ := T.L.x10
  have kl := keys_len hst n5 T.K
  refine s_set (hb := hbT) (z_filt (b := fun j => decide (cntS (tabL st n (2 ^ n)) j = 1)) (zs_dict S T.l13) (by (first | lia | omega)) fun x hx hb2 e2 => zt_bool (z_eq (z_cnt (S.ext e2) (i := 1) T.l13 (z_nameI rfl) hx) z_int)) s fun hb2 hp2 v g2 hv => ?_
  have pm := ones_perm hst n5 T.K T.L.frm T.L.frn
  have hfl : fr.length ≤ n := by
    have := len_sub (keys := keysN n) T.L.frn fun k hk => ((T.L.frm k).mp hk).1
    rwa [len_keysN] at this
  have ol : (keys.filter fun j => decide (cntS (tabL st n (2 ^ n)) j = 1)).length < 64 := Nat.lt_of_le_of_lt (List.length_filter_le ..) (by (first | lia | omega))
  refine s_next (s_if (hb := hb2) (c := false) (zt_cast (zt_bool (z_neL (z_sorted (z_name (i := 18) rfl hv) ol (srtL_perm _) (srtL_sorted _)) (z_sorted (m := srtL (keys.filter fun j => decide (cntS (tabL st n (2 ^ n)) j = 1))) (z_compN (S := VI) (R := VI) (f := fun k => (dn st n k : Int)) (zs_list (z_nameL (i := 10) m10 (g2.b _ _ h10))) (by (first | lia | omega)) ?_) (by rw [List.length_map]; (first | lia | omega)) ((srtL_perm _).trans pm) (srtL_sorted _)))) (by simp)) g2.s nofun fun _ hb3 hp3 g3 => k hb3 hp3 v (g2.trans g3) ((VL VI).m g3.b hv))
  rintro x hx _ hb3 e3 rfl
  have hxk := ((T.L.frm x).mp hx).1
  exact z_cast (z_add (z_keyItem (z_nameL (i := 1) m5 (e3 _ _ (g2.b _ _ h5))) (z_nameI rfl) hxk) (z_pow z_int (z_nameI rfl) (mem_keysN.mp hxk).1 (by have := mem_keysN.mp hxk; (first | lia | omega)) (by decide))) (dn_cast x)
end
end
section
noncomputable abbrev subI (a b : Int) : Bool := decide (Builtin.bitOr a b = b)
/-- the links of one set to those that hold it -/
noncomputable def smL (os : List Int) (a : Int) : List (Int × Int) := (os.filter fun b => subI a b && !decide (a = b)).map fun b => (a, b)
noncomputable def smAll (os : List Int) (l : List Int) : List (Int × Int) := l.flatMap (smL os)
theorem mem_smL {os : List Int} {a : Int} {p : Int × Int} : p ∈ smL os a ↔ p.1 = a ∧ p.2 ∈ os ∧ subI a p.2 = true ∧ a ≠ p.2 := by
  unfold smL
  rw [List.mem_map]
  constructor
  · rintro ⟨b, h, rfl⟩
    obtain ⟨h1, h2⟩ := List.mem_filter.mp h
    rw [Bool.and_eq_true, Bool.not_eq_true', decide_eq_false_iff_not] at h2
    exact ⟨rfl, h1, h2.1, h2.2⟩
  · rintro ⟨h1, h2, h3, h4⟩
    refine ⟨p.2, List.mem_filter.mpr ⟨h2, ?_⟩, by rw [← h1]⟩
    rw [Bool.and_eq_true, Bool.not_eq_true', decide_eq_false_iff_not]
    exact ⟨h3, h4⟩
theorem mem_smAll {os l : List Int} {p : Int × Int} : p ∈ smAll os l ↔ p.1 ∈ l ∧ p.2 ∈ os ∧ subI p.1 p.2 = true ∧ p.1 ≠ p.2 := by
  unfold smAll
  rw [List.mem_flatMap]
  constructor
  · rintro ⟨a, h1, h2⟩
    obtain ⟨h3, h4⟩ := mem_smL.mp h2
    rw [h3]; exact ⟨h1, h4⟩
  · rintro ⟨h1, h2⟩; exact ⟨p.1, h1, mem_smL.mpr ⟨rfl, h2⟩⟩
theorem smL_snoc {os : List Int} {a b : Int} : smL (os ++ [b]) a = smL os a ++ (if subI a b && !decide (a = b) then [(a, b)] else []) := by
  unfold smL
  rw [List.filter_append, List.map_append, List.filter_cons, List.filter_nil]
  congr 1
  split <;> rfl
/-- the keys while small is made -/
structure SK (os keys : List Int) (L : List (Int × Int)) : Prop where
  nd : keys.Nodup
  sub : ∀ x ∈ keys, x ∈ os
  ends : ∀ p ∈ L, p.1 ∈ keys ∧ p.2 ∈ keys
theorem nodup_insK {keys : List Int} {k : Int} (h : keys.Nodup) : (insK keys k).Nodup := by
  unfold insK
  split
  · exact h
  · rename_i q
    rw [List.nodup_append]
    exact ⟨h, by simp, fun a ha b hb e => q (by rw [← List.mem_singleton.mp hb, ← e]; exact ha)⟩
theorem SK.ins {os keys : List Int} {L : List (Int × Int)} (S : SK os keys L) {a : Int} (ha : a ∈ os) : SK os (insK keys a) L :=
  ⟨nodup_insK S.nd, fun x hx => (mem_insK.mp hx).elim (S.sub x) fun e => e ▸ ha, fun p hp => ⟨mem_insK.mpr (.inl (S.ends p hp).1), mem_insK.mpr (.inl (S.ends p hp).2)⟩⟩
theorem SK.link {os keys : List Int} {L : List (Int × Int)} (S : SK os keys L) {a b : Int} (ha : a ∈ os) (hb : b ∈ os) : SK os (insK (insK keys a) b) (L ++ [(a, b)]) := by
  have S2 := (S.ins ha).ins hb
  refine ⟨S2.nd, S2.sub, fun p hp => ?_⟩
  rcases List.mem_append.mp hp with h | h
  · exact S2.ends p h
  · rw [List.mem_singleton.mp h]
    exact ⟨mem_insK.mpr (.inl (mem_insK.mpr (.inr rfl))), mem_insK.mpr (.inr rfl)⟩
section
variable {os : List Int} {lo : Loc} {hb hp : AH} {X2 n2 : Addr} {keys : List Int} {L : List (Int × Int)} {a b : Int} {Q : Fl → St → Prop} {E : Ex → St → Prop}
noncomputable def smBody : SP := (sIf (tOf (pBin opEq (pBin opOr (pName 19) (pName 20)) (pName 20))) (sExpr (pCall fp_link (lCons (pUn (opAttrS 0) (pName 12)) (lCons (pName 19) (lCons (pName 20) lNil))))) sNil)
theorem sm_body (B : BldN eH hb hp X2 n2 keys (cntS L) (succS L)) (S : SK os keys L) (hz : os.length < 100) (hL : L.length < 1000) (ha : a ∈ os) (hb' : b ∈ os) (l12 : lo 12 = some (.ref X2)) (l19 : lo 19 = some (.int a)) (l20 : lo 20 = some (.int b))
    (k : ∀ hb' hp' keys', Ext hb hb' → BldN eH hb' hp' X2 n2 keys' (cntS (L ++ (if subI a b && !decide (a = b) then [(a, b)] else []))) (succS (L ++ (if subI a b && !decide (a = b) then [(a, b)] else []))) → SK os keys' (L ++ (if subI a b && !decide (a = b) then [(a, b)] else [])) → (∀ x ∈ keys, x ∈ keys') → (a = b → subI a b = true → a ∈ keys') → Q .next ⟨lo, hp'⟩) : smBody Q E ⟨lo, hp⟩ := by
  have kl : keys.length < 1000 := Nat.lt_of_le_of_lt (len_sub S.nd S.sub) (by (first | lia | omega))
  refine s_if (hb := hb) (zt_bool (z_eq (z_or (z_nameI l19) (z_nameI l20)) (z_nameI l20))) B.s (fun hc hb2 hp2 g2 => ?_) fun hc hb2 hp2 g2 => ?_
  · have hs : subI a b = true := hc
    have B2 := B.gr g2
    have B2' := B2
    obtain ⟨own, d, rec, suc, S2, _⟩ := B2'
    refine ⟨_, l12, d, _, _, S2.hx, S2.hd, rfl, _, l19, _, l20, ?_⟩
    dsimp only [lNil]
    rw [hs] at k
    by_cases q : a = b
    · subst q
      have e : (if (true && !decide (a = a)) = true then [(a, a)] else []) = ([] : List (Int × Int)) := by simp
      rw [e, List.append_nil] at k
      exact b_link0 B2 kl hL fun hp3 B3 => k hb2 hp3 _ g2.b B3 (S.ins ha) (fun x hx => mem_insK.mpr (.inl hx)) fun _ _ => mem_insK.mpr (.inr rfl)
    · have e : (if (true && !decide (a = b)) = true then [(a, b)] else []) = [(a, b)] := by simp [q]
      rw [e] at k
      exact b_link B2 kl hL q fun hp3 B3 => k hb2 hp3 _ g2.b B3 (S.link ha hb') (fun x hx => mem_insK.mpr (.inl (mem_insK.mpr (.inl hx)))) fun e => absurd e q
  · have hs : subI a b = false := hc
    rw [hs] at k
    have e : (if (false && !decide (a = b)) = true then [(a, b)] else []) = ([] : List (Int × Int)) := by simp
    rw [e, List.append_nil] at k
    exact k hb2 hp2 keys g2.b (B.gr g2) S (fun x hx => hx) fun _ => nofun
theorem smL_len : (smL os a).length ≤ os.length := by
  unfold smL; rw [List.length_map]; exact List.length_filter_le ..
theorem smAll_len (l : List Int) : (smAll os l).length ≤ l.length * os.length := by
  unfold smAll
  induction l with
  | nil => exact Nat.zero_le _
  | cons x l ih =>
    rw [List.flatMap_cons, List.length_append, List.length_cons, Nat.succ_mul]
    have := smL_len (os := os) (a := x)
    (first | lia | omega)
noncomputable def smLoop : SP := (sFor (iSeq (pName 18)) (aName 19) (sFor (iSeq (pName 18)) (aName 20) smBody))
theorem sm_loop {v : AV} (B : BldN eH hb hp X2 n2 [] (cntS []) (succS [])) (hv : (VL VI).r os v hb) (hz : os.length ≤ 5) (hself : ∀ a ∈ os, subI a a = true) (l12 : lo 12 = some (.ref X2)) (l18 : lo 18 = some v)
    (k : ∀ lo' hp' keys, (∀ j, j ≠ 19 → j ≠ 20 → lo' j = lo j) → BldN eH hb hp' X2 n2 keys (cntS (smAll os os)) (succS (smAll os os)) → keys.Nodup → (∀ x, x ∈ keys ↔ x ∈ os) → Q .next ⟨lo', hp'⟩) : smLoop Q E ⟨lo, hp⟩ := by
  refine s_for (hb := hb) (zs_list (z_name l18 hv)) B.s fun hb1 hp1 g1 => ⟨fun i lo2 hp2 => (∀ j, j ≠ 19 → j ≠ 20 → lo2 j = lo j) ∧ ∃ hb2 keys, Ext hb1 hb2 ∧ BldN eH hb2 hp2 X2 n2 keys (cntS (smAll os (os.take i))) (succS (smAll os (os.take i))) ∧ SK os keys (smAll os (os.take i)) ∧ ∀ x ∈ os.take i, x ∈ keys, ⟨fun _ _ _ => rfl, hb1, [], Ext.refl _, B.gr g1, ⟨List.nodup_nil, nofun, nofun⟩, nofun⟩, fun i lo2 hp2 h => by obtain ⟨_, hb2, keys, e2, B2, _⟩ := h; exact e2.trans B2.s, ?_, ?_⟩
  · rintro i a u lo2 hp2 hi rfl ⟨f, hb2, keys, e2, B2, S2, h2⟩
    have ha := List.mem_of_getElem? hi
    refine s_for (lo := setv lo2 19 (.int a)) (hb := hb2) (zs_list (z_name (i := 18) ((f 18 (by decide) (by decide)).trans l18) ((VL VI).m (g1.b.trans e2) hv))) B2.s fun hb3 hp3 g3 => ⟨fun j lo3 hp4 => (∀ j, j ≠ 19 → j ≠ 20 → lo3 j = lo j) ∧ lo3 19 = some (.int a) ∧ ∃ hb4 keys4, Ext hb3 hb4 ∧ BldN eH hb4 hp4 X2 n2 keys4 (cntS (smAll os (os.take i) ++ smL (os.take j) a)) (succS (smAll os (os.take i) ++ smL (os.take j) a)) ∧ SK os keys4 (smAll os (os.take i) ++ smL (os.take j) a) ∧ (∀ x ∈ os.take i, x ∈ keys4) ∧ (a ∈ os.take j → a ∈ keys4), ⟨fun j q1 q2 => (setv_ne _ _ q1).trans (f j q1 q2), rfl, hb3, keys, Ext.refl _, ?_, ?_, h2, nofun⟩, fun j lo3 hp4 h => by obtain ⟨_, _, hb4, keys4, e4, B4, _⟩ := h; exact e4.trans B4.s, ?_, ?_⟩
    · have e : smAll os (os.take i) ++ smL (os.take 0) a = smAll os (os.take i) := List.append_nil _
      rw [e]; exact B2.gr g3
    · have e : smAll os (os.take i) ++ smL (os.take 0) a = smAll os (os.take i) := List.append_nil _
      rw [e]; exact S2
    · rintro j b u lo3 hp4 hj rfl ⟨f3, m19, hb4, keys4, e4, B4, S4, h4, h5⟩
      have hb' := List.mem_of_getElem? hj
      have e0 : os.take (j + 1) = os.take j ++ [b] := by rw [List.take_add_one, hj]; rfl
      have hlen : (smAll os (os.take i) ++ smL (os.take j) a).length < 1000 := by
        rw [List.length_append]
        have h1 := smAll_len (os := os) (os.take i)
        have h2 := smL_len (os := os.take j) (a := a)
        rw [List.length_take] at h1 h2
        have h3 : min i os.length * os.length ≤ 5 * 5 := Nat.mul_le_mul (by (first | lia | omega)) hz
        (first | lia | omega)
      refine sm_body (lo := setv lo3 20 (.int b)) B4 S4 (by (first | lia | omega)) hlen ha hb' ((f3 12 (by decide) (by decide)).trans l12) m19 rfl fun hb5 hp5 keys5 e5 B5 S5 h6 h7 => ⟨fun j q1 q2 => (setv_ne _ _ q2).trans (f3 j q1 q2), m19, hb5, keys5, e4.trans e5, ?_, ?_, fun x hx => h6 x (h4 x hx), fun hx => ?_⟩
      · rw [e0, smL_snoc, ← List.append_assoc]; exact B5
      · rw [e0, smL_snoc, ← List.append_assoc]; exact S5
      · rw [e0] at hx
        rcases List.mem_append.mp hx with h | h
        · exact h6 a (h5 h)
        · have e := List.mem_singleton.mp h
          exact h7 e (e ▸ hself a ha)
    · rintro lo3 hp4 ⟨f3, m19, hb4, keys4, e4, B4, S4, h4, h5⟩
      rw [List.take_length] at B4 S4 h5
      have e0 : os.take (i + 1) = os.take i ++ [a] := by rw [List.take_add_one, hi]; rfl
      have e1 : smAll os (os.take (i + 1)) = smAll os (os.take i) ++ smL os a := by unfold smAll; rw [e0, List.flatMap_append]; simp
      refine ⟨f3, hb4, keys4, e2.trans (g3.b.trans e4), ?_, ?_, fun x hx => ?_⟩
      · rw [e1]; exact B4
      · rw [e1]; exact S4
      · rw [e0] at hx
        rcases List.mem_append.mp hx with h | h
        · exact h4 x h
        · rw [List.mem_singleton.mp h]; exact h5 ha
  · rintro lo2 hp2 ⟨f, hb2, keys, e2, B2, S2, h2⟩
    rw [List.take_length] at B2 S2 h2
    exact k lo2 hp2 keys f (B2.less (Ext.refl _) (g1.b.trans e2)) S2.nd fun x => ⟨S2.sub x, h2 x⟩
end
end
section
theorem Sep.set {hb hp w : AH} {ws : List AH} {a : Addr} {o : AObj} (S : Sep hb (w :: ws) hp) (ha : w a ≠ none) : Sep hb (upd w a o :: ws) (upd hp a o) := by
  refine S.step (fun c o' h => ?_) (fun c o' h => ?_) fun c hc => rst_out ?_
  · have q : c ≠ a := fun q => by rw [q, rst_out ha] at h; cases h
    rw [upd_ne q]; exact rst_ext _ _ h
  · by_cases q : c = a
    · rw [q, upd_self] at h ⊢; exact h
    · rw [upd_ne q] at h ⊢; exact S.e w (List.mem_cons_self ..) _ _ h
  · by_cases q : c = a
    · rw [q]; exact ha
    · rw [upd_ne q] at hc; exact hc
/-- a list alone -/
noncomputable def LH (l : Addr) (ns : List Int) : AH := upd eH l (.list (intsA ns))
theorem lh_self {l : Addr} {ns : List Int} : LH l ns l = some (.list (intsA ns)) := upd_self ..
theorem lh_set {l : Addr} {ns ms : List Int} : upd (LH l ns) l (.list (intsA ms)) = LH l ms := by
  funext a
  unfold LH
  by_cases q : a = l
  · rw [q, upd_self, upd_self]
  · rw [upd_ne q, upd_ne q, upd_ne q]
/-- the state ahead of the two runs -/
structure TS (n : Nat) (st : List (Int × Int)) (cs rg fr : List Int) (lo : Loc) (hb hbK hp w1 w2 : AH) (X n1 X2 n2 lr : Addr) (keys os keys2 : List Int) : Prop where
  L : LE n st cs rg fr lo hb
  l11 : lo 11 = some (.ref X)
  l12 : lo 12 = some (.ref X2)
  l13 : lo 13 = some (.ref n1)
  l14 : lo 14 = some (.ref lr)
  rows : (VL (VL VI)).r ((List.range (n + 1)).map (rowL st n (2 ^ n))) (.ref lr) hb
  W1 : BS w1 X n1 keys (cntS (tabL st n (2 ^ n))) (succS (tabL st n (2 ^ n)))
  K : KeysOf keys (tabL st n (2 ^ n))
  W2 : BS w2 X2 n2 keys2 (cntS (smAll os os)) (succS (smAll os os))
  om : ∀ x, x ∈ os ↔ ∃ k ∈ keysN n, Fre st n k ∧ x = (dn st n k : Nat)
  k2 : keys2.Nodup ∧ ∀ x, x ∈ keys2 ↔ x ∈ os
  sep : Sep hb [w1, w2] hbK
  sk : Ext hbK hp
section
variable {st : List (Int × Int)} {n : Nat} {cs rg fr keys : List Int} {lo : Loc} {hb w hp : AH} {X n1 X2 n2 lr : Addr} {Q : Fl → St → Prop} {E : Ex → St → Prop} {rest : SP}
theorem or_idem (x : Nat) : Builtin.bitOr (x : Int) (x : Int) = (x : Int) := by rw [bitOr_nat, Nat.or_self]
theorem lw_small (T : TB n st cs rg fr lo hb w hp X n1 X2 n2 lr keys)
    (k : ∀ lo' hb' hbK' hp' w1 w2 os keys2, TS n st cs rg fr lo' hb' hbK' hp' w1 w2 X n1 X2 n2 lr keys os keys2 → rest Q E ⟨lo', hp'⟩) :
    (sSeq (sAssign lwOnes (aName 18)) (sSeq (sIf (tOf (pBin opNe (pBi opSorted (lCons (pName 18) lNil)) (pBi opSorted (lCons (pComp [none, some 5] (iSeq (pName 10)) (aName 0) (cTest none (cEmit (pBin opAdd (pBin opItem (pName 1) (pName 0)) (pBin opPow (pInt 2) (pName 0)))))) lNil)))) (sRet (pBool false)) sNil) (sSeq smLoop rest))) Q E ⟨lo, hp⟩ := by
  have n5 := T.L.n5
  have hst := T.L.hst
  obtain ⟨w1, W1, ew1, dj1⟩ := T.B.cut
  have s0 : Ext hb hp := uni_l.trans T.B.s
  have d1 : ∀ a, w1 a ≠ none → hb a = none ∧ w a = none := fun a ha => by
    have h := (dj1 a ha).1
    unfold uni at h
    cases q : hb a with
    | some o => rw [q] at h; cases h
    | none => rw [q] at h; exact ⟨rfl, h⟩
  have eT : Ext w1 (uni hb w1) := uni_r s0 ew1
  have sT : Ext (uni hb w1) hp := uni_s s0 ew1
  have TKt : TK n st cs rg fr lo hb w1 (uni hb w1) X n1 keys := ⟨T.L.ext uni_l fun _ _ => rfl, T.l13, uni_l, eT, W1, T.K⟩
  refine lw_ones TKt sT fun hb2 hp2 v g2 hv => ?_
  have os_eq : ∀ x, x ∈ (keys.filter fun j => decide (cntS (tabL st n (2 ^ n)) j = 1)) ↔ ∃ k ∈ keysN n, Fre st n k ∧ x = (dn st n k : Nat) := fun x => by
    rw [List.mem_filter, decide_eq_true_eq, cnt_one hst n5]
    refine ⟨fun h => h.2, fun h => ⟨?_, h⟩⟩
    obtain ⟨j, hj, F, rfl⟩ := h
    exact (in_keys hst n5 T.K).mpr ⟨_, rfl, dn_idl hst n5 hj F⟩
  have pm := ones_perm hst n5 T.K T.L.frm T.L.frn
  have olen : (keys.filter fun j => decide (cntS (tabL st n (2 ^ n)) j = 1)).length ≤ 5 := by
    rw [pm.length_eq, List.length_map]
    have := len_sub (keys := keysN n) T.L.frn fun k hk => ((T.L.frm k).mp hk).1
    rw [len_keysN] at this; (first | lia | omega)
  generalize (keys.filter fun j => decide (cntS (tabL st n (2 ^ n)) j = 1)) = os at hv os_eq olen
  have dw : ∀ a, w a ≠ none → uni hb w1 a = none := fun a ha => by
    unfold uni
    rw [T.nw a ha]
    cases q : w1 a with
    | none => rfl
    | some o => exact absurd (d1 a (by rw [q]; nofun)).2 ha
  have dw2 : ∀ a, w a ≠ none → hb2 a = none := fun a ha => g2.n a (dw a ha) (T.ew.some ha)
  have B2 : BldN eH hb2 hp2 X2 n2 [] (cntS []) (succS []) := T.W.put (T.ew.trans g2.e) g2.s eH_ext fun a ha => ⟨dw2 a ha, rfl⟩
  have l12 : setv lo 18 v 12 = some (.ref X2) := T.l12
  refine s_next (sm_loop B2 hv olen (fun a ha => ?_) l12 rfl fun lo3 hp3 keys2 f3 B3 nd3 m3 => ?_)
  · obtain ⟨j, _, _, rfl⟩ := (os_eq a).mp ha
    rw [decide_eq_true_eq]; exact or_idem _
  obtain ⟨w2, W2, ew2, dj2⟩ := B3.cut
  have s3 := B3.s
  have e2b : Ext hb hb2 := uni_l.trans g2.b
  have e2w : Ext w1 hb2 := eT.trans g2.b
  have fl : ∀ j, j ≠ 18 → j ≠ 19 → j ≠ 20 → lo3 j = lo j := fun j a b c => (f3 j b c).trans (setv_ne _ _ a)
  refine k lo3 hb (uni hb2 w2) hp3 w1 w2 os keys2 ⟨T.L.ext (Ext.refl _) fun j hj => ?_, (fl 11 (by decide) (by decide) (by decide)).trans T.l11, (fl 12 (by decide) (by decide) (by decide)).trans T.l12, (fl 13 (by decide) (by decide) (by decide)).trans T.l13, (fl 14 (by decide) (by decide) (by decide)).trans T.l14, T.rows, W1, T.K, W2, os_eq, ⟨nd3, m3⟩, ⟨e2b.trans uni_l, fun u hu => ?_, fun u hu a ha => ?_, List.pairwise_cons.mpr ⟨fun u hu a ha => ?_, List.pairwise_singleton ..⟩⟩, uni_s s3 ew2⟩
  · simp only [List.mem_cons, List.not_mem_nil, or_false] at hj
    rcases hj with rfl | rfl | rfl | rfl | rfl | rfl <;> exact fl _ (by decide) (by decide) (by decide)
  · simp only [List.mem_cons, List.not_mem_nil, or_false] at hu
    rcases hu with rfl | rfl
    · exact e2w.trans uni_l
    · exact uni_r s3 ew2
  · simp only [List.mem_cons, List.not_mem_nil, or_false] at hu
    rcases hu with rfl | rfl
    · exact (d1 a ha).1
    · exact e2b.none (dj2 a ha).1
  · rw [List.mem_singleton.mp hu]
    cases q : w2 a with
    | none => rfl
    | some o => exact absurd (e2w.none (dj2 a (by rw [q]; nofun)).1) ha
end
end
section
noncomputable def ffB : Int → Bool := fun _ => false
section
variable {st : List (Int × Int)} {n : Nat} {cs rg fr : List Int} {lo : Loc} {hb hp : AH} {Q : Fl → St → Prop} {E : Ex → St → Prop} {rest : SP}
theorem lw_told (L : LE n st cs rg fr lo hb) (s : Ext hb hp)
    (k : ∀ hp' w X0 c Rs, Ext hp hp' → RS w X0 (keysN n) (succS st) ffB ffB Rs → Ext w hp' → (∀ a, w a ≠ none → hp a = none) → (c = true ↔ rg ≠ []) → rest Q E ⟨setvs lo [21, 22] [.ref X0, .bool c], hp'⟩) :
    (sSeq (sAssign (pCall fp_told (lCons (pName 4) (lCons (pName 3) lNil))) (aTuple [21, 22])) rest) Q E ⟨lo, hp⟩ := by
  obtain ⟨v4, m4, h4⟩ := L.x4
  have n5 := L.n5
  have hsl := L.hsl
  refine ⟨_, m4, _, L.l3, ?_⟩
  dsimp only [lNil]
  refine told_spec s h4 (by (first | lia | omega)) L.hst (by (first | lia | omega)) fun hp' t X0 c Rs zt B hc => ⟨_, B.s _ _ (upd_self ..), rfl, ?_⟩
  obtain ⟨w, R, e, dj⟩ := B.cut
  refine k hp' w X0 c Rs B.e0 R e (fun a ha => (dj a ha).2) (hc.trans ?_)
  constructor
  · rintro ⟨j, hj, q⟩ e
    have := (L.rgm j).mpr ⟨hj, q⟩
    rw [e] at this; cases this
  · intro q
    cases e : rg with
    | nil => exact absurd e q
    | cons j l => exact ⟨j, (L.rgm j).mp (by rw [e]; exact List.mem_cons_self ..)⟩
theorem lw_ring (L : LE n st cs rg fr lo hb) (s : Ext hb hp) {c : Bool} (l22 : lo 22 = some (.bool c)) (hc : c = true ↔ rg ≠ [])
    (k : ∀ hp', Ext hp hp' → rest Q E ⟨lo, hp'⟩) :
    (sSeq (sIf (tOf (pBin opNe (pName 22) (pBin opNe (pName 9) (pList lNil)))) (sRet (pBool false)) sNil) rest) Q E ⟨lo, hp⟩ := by
  obtain ⟨a9, m9, h9⟩ := L.x9
  refine s_next (s_if (hb := hb) (c := false) (zt_cast (zt_bool (z_neB (z_name (R := VB) l22 rfl) (z_neL (z_nameL (i := 9) m9 h9) (z_list (R := VI) zi_nil (by decide))))) ?_) s nofun fun _ hb3 hp3 g3 => k hp3 g3.e)
  cases c with
  | true => have := hc.mp rfl; simp [this]
  | false =>
    have : rg = [] := Classical.byContradiction fun q => absurd (hc.mpr q) nofun
    simp [this]
/-- what waits in a run -/
structure RnI (n : Nat) (st : List (Int × Int)) (m : Nat) (W : List Int) (w : AH) (X : Addr) (don out : Int → Bool) (Rs : List Int) : Prop where
  I : Idl st n m
  R : RS w X (keysN n) (succS st) don out Rs
  hd : ∀ k ∈ keysN n, don k = bit m k
  ho : ∀ k, out k = decide (k ∈ W)
  wn : W.Nodup
variable {m : Nat} {W : List Int} {w : AH} {X : Addr} {don out : Int → Bool} {Rs : List Int}
theorem RnI.all (H : RnI n st m W w X don out Rs) (hst : ∀ p ∈ st, p.1 ∈ keysN n ∧ p.2 ∈ keysN n) : (W ++ Rs).Nodup ∧ ∀ k, k ∈ W ++ Rs ↔ k ∈ keysN n ∧ Rdy st m k := by
  have pre : ∀ k, (∀ v ∈ keysN n, k ∈ succS st v → don v = true) ↔ ∀ f, (f, k) ∈ st → bit m f = true := fun k => by
    constructor
    · intro h f hf
      have hk := (hst _ hf).1
      rw [← H.hd f hk]; exact h f hk (mem_succS.mpr hf)
    · intro h v hv hk
      rw [H.hd v hv]; exact h v (mem_succS.mp hk)
  refine ⟨List.nodup_append.mpr ⟨H.wn, H.R.nodup, fun a ha b hb e => ?_⟩, fun k => ?_⟩
  · have := (H.R.mem.mp hb).2.2.1
    rw [H.ho, decide_eq_false_iff_not, ← e] at this
    exact this ha
  · rw [List.mem_append]
    constructor
    · rintro (h | h)
      · obtain ⟨h1, h2, h3⟩ := H.R.isOut ((H.ho k).trans (decide_eq_true h))
        exact ⟨h1, by rw [← H.hd k h1]; exact h2, (pre k).mp h3⟩
      · obtain ⟨h1, h2, _, h3⟩ := H.R.mem.mp h
        exact ⟨h1, by rw [← H.hd k h1]; exact h2, (pre k).mp h3⟩
    · rintro ⟨h1, h2, h3⟩
      by_cases q : k ∈ W
      · exact .inl q
      · exact .inr (H.R.mem.mpr ⟨h1, by rw [H.hd k h1]; exact h2, by rw [H.ho, decide_eq_false_iff_not]; exact q, (pre k).mpr h3⟩)
theorem succ_perm (hst : ∀ p ∈ st, p.1 ∈ keysN n ∧ p.2 ∈ keysN n) (hn : n ≤ 5) (I : Idl st n m) {W : List Int} (hw : W.Nodup) (hm : ∀ k, k ∈ W ↔ k ∈ keysN n ∧ Rdy st m k) : (succS (tabL st n (2 ^ n)) m).Perm (W.map fun k => ((m + pw k : Nat) : Int)) := by
  refine (List.perm_ext_iff_of_nodup ?_ (nodup_map ?_ hw)).mpr fun j => ?_
  · unfold succS
    refine nodup_map ?_ (List.Pairwise.filter _ tabL_nodup)
    rintro ⟨a, b⟩ ha ⟨c, d⟩ hc e
    have h1 := eq_of_beq (List.mem_filter.mp ha).2
    have h2 := eq_of_beq (List.mem_filter.mp hc).2
    dsimp only at h1 h2 e
    rw [h1, h2, e]
  · intro a ha b hb e
    have h1 := (mem_keysN.mp ((hm a).mp ha).1).1
    have h2 := (mem_keysN.mp ((hm b).mp hb).1).1
    exact pw_inj h1 h2 (by have := Int.ofNat_inj.mp e; (first | lia | omega))
  · rw [mem_succS, mem_TL hst hn, List.mem_map]
    constructor
    · rintro ⟨v, k, h1, h2, h3, e⟩
      obtain ⟨e1, rfl⟩ := Prod.mk.inj e
      have e1 := Int.ofNat_inj.mp e1
      subst e1
      exact ⟨k, (hm k).mpr ⟨h2, h3⟩, rfl⟩
    · rintro ⟨k, hk, rfl⟩
      obtain ⟨h1, h2⟩ := (hm k).mp hk
      exact ⟨m, k, I, h1, h2, rfl⟩
end
end
section
section
variable {st : List (Int × Int)} {n m i : Nat} {cs rg fr keys : List Int} {lo : Loc} {hb hp hbK h9 w1 w : AH} {X n1 X0 lw : Addr} {W Rs : List Int} {don out : Int → Bool} {Q : Fl → St → Prop} {E : Ex → St → Prop} {rest : SP}
noncomputable def rnTail : SP := (sIf (tOf (pBin opNe (pName 23) (pList lNil))) (sSeq (sAssign (pBm "list" opPop (pName 23) (lCons (pBin opMod (pBin opItem (pName 1) (pName 6)) (pBi opLen (lCons (pName 23) lNil))) lNil)) (aName 17)) (sSeq (sExpr (pMeth (pName 21) fp_done (lCons (pName 17) lNil))) (sAugName iAdd 15 (pBin opPow (pInt 2) (pName 17))))) sNil)
noncomputable def rnTest : SP := (sIf (tOf (pBin opNe (pBi opSorted (lCons (pUn (opAttrN 2) (pBin opItem (pName 13) (pName 15))) lNil)) (pBi opSorted (lCons (pComp [none, some 15] (iSeq (pName 23)) (aName 0) (cTest none (cEmit (pBin opAdd (pName 1) (pBin opPow (pInt 2) (pName 0)))))) lNil)))) (sRet (pBool false)) sNil)
noncomputable def rnBody : SP := (sSeq (sExpr (pBm "list" opExtend (pName 23) (lCons (pMeth (pName 21) fp_get_ready lNil) lNil))) (sSeq rnTest rnTail))
theorem Sep.know {ws : List AH} (S : Sep hb (w :: ws) hp) : Ext (uni hb w) hp ∧ Ext w (uni hb w) := ⟨uni_s S.s (S.e w (List.mem_cons_self ..)), uni_r S.s (S.e w (List.mem_cons_self ..))⟩
theorem erase_mem {l : List Int} (h : l.Nodup) {v : Int} {i : Nat} (hi : l[i]? = some v) : (l.eraseIdx i).Nodup ∧ ∀ k, k ∈ l.eraseIdx i ↔ k ∈ l ∧ k ≠ v := by
  refine ⟨h.sublist (List.eraseIdx_sublist ..), fun k => ?_⟩
  obtain ⟨hl, e⟩ := List.getElem?_eq_some_iff.mp hi
  rw [List.mem_eraseIdx_iff_getElem?]
  constructor
  · rintro ⟨j, hj, q⟩
    refine ⟨List.mem_of_getElem? q, fun e2 => hj ?_⟩
    subst e2
    obtain ⟨lj, _⟩ := List.getElem?_eq_some_iff.mp q
    exact (List.getElem?_inj lj h).mp (q.trans hi.symm)
  · rintro ⟨hk, q⟩
    obtain ⟨j, hj⟩ := List.mem_iff_getElem?.mp hk
    refine ⟨j, fun e2 => q ?_, hj⟩
    subst e2
    rw [hi] at hj; exact (Option.some.inj hj).symm
theorem erase_ints (l : List Int) (i : Nat) : (intsA l).eraseIdx i = intsA (l.eraseIdx i) := by
  induction l generalizing i with
  | nil => rfl
  | cons a l ih =>
    cases i with
    | zero => rfl
    | succ i => exact congrArg (AV.int a :: ·) (ih i)
theorem rn_tail (L : LE n st cs rg fr lo hbK) (eK : Ext hbK hb) (I : Idl st n m) (hW : W.Nodup) (hm : ∀ k, k ∈ W ↔ k ∈ keysN n ∧ Rdy st m k) (R : RS w X0 (keysN n) (succS st) don out Rs) (hd : ∀ k ∈ keysN n, don k = bit m k) (ho : ∀ k, out k = decide (k ∈ W))
    (S : Sep hb [LH lw W, w] hp) (l6 : lo 6 = some (.int i)) (hi : i ≤ n) (l15 : lo 15 = some (.int m)) (l21 : lo 21 = some (.ref X0)) (l23 : lo 23 = some (.ref lw))
    (k : ∀ lo' hb' hp' m' W' w' don' out' Rs', (∀ j, j ≠ 15 → j ≠ 17 → lo' j = lo j) → lo' 15 = some (.int (m' : Nat)) → Ext hb hb' → RnI n st m' W' w' X0 don' out' Rs' → Sep hb' [w', LH lw W'] hp' → Q .next ⟨lo', hp'⟩) : rnTail Q E ⟨lo, hp⟩ := by
  obtain ⟨a1, m1, h1⟩ := L.x1
  have n5 := L.n5
  have hst := L.hst
  obtain ⟨s1, e1⟩ := S.know
  refine s_if (hb := uni hb (LH lw W)) (zt_bool (z_neL (z_nameL l23 (e1 _ _ lh_self)) (z_list (R := VI) zi_nil (by decide)))) s1 (fun hc hb2 hp2 g2 => ?_) fun hc hb2 hp2 g2 => ?_
  · have hne : W ≠ [] := by simpa using hc
    have hpos : 0 < W.length := List.length_pos_iff.mpr hne
    have S2 := S.ext g2.e
    have hlw : hp2 lw = some (.list (intsA W)) := S2.e _ (List.mem_cons_self ..) _ _ lh_self
    have hcs := L.hcs
    refine ⟨_, l23, ⟨lw, _, rfl, hlw, rfl⟩, ?_⟩
    refine (z_mod (z_item (R := VI) (z_nameL (i := 1) m1 (g2.b _ _ (uni_l _ _ (eK _ _ h1)))) (z_nameI l6) (by (first | lia | omega)) (List.getElem?_eq_getElem (by (first | lia | omega) : (i : Int).toNat < cs.length))) (z_len (z_nameL (i := 23) l23 (g2.b _ _ (e1 _ _ lh_self)))) (by (first | lia | omega)) : Z _ VI _ lo hb2) hp2 g2.s _ _ ?_
    rintro hb3 hp3 _ g3 rfl
    have S3 := S2.ext g3.e
    have q0 : 0 ≤ cs[(i : Int).toNat] % (W.length : Int) := Int.emod_nonneg _ (by (first | lia | omega))
    have q1 : cs[(i : Int).toNat] % (W.length : Int) < (W.length : Int) := Int.emod_lt_of_pos _ (by (first | lia | omega))
    generalize cs[(i : Int).toNat] % (W.length : Int) = j at q0 q1
    have hv : W[j.toNat]? = some W[j.toNat] := List.getElem?_eq_getElem (by (first | lia | omega))
    generalize W[j.toNat] = v at hv
    obtain ⟨d1, d2⟩ := erase_mem hW hv
    have hvW := List.mem_of_getElem? hv
    obtain ⟨hvk, hr⟩ := (hm v).mp hvW
    refine ⟨_, .int v, S3.e _ (List.mem_cons_self ..) _ _ lh_self, q0, by rw [List.getElem?_map, hv]; rfl, ?_⟩
    have S4 : Sep hb [w, LH lw (W.eraseIdx j.toNat)] (upd hp3 lw (.list (intsA (W.eraseIdx j.toNat)))) := by
      have h := S3.set (a := lw) (o := .list (intsA (W.eraseIdx j.toNat))) (by rw [lh_self]; nofun)
      rw [lh_set] at h
      exact h.rot
    have e0 : (intsA W).eraseIdx j.toNat = intsA (W.eraseIdx j.toNat) := erase_ints ..
    rw [e0]
    have ew := S4.e w (List.mem_cons_self ..)
    refine ⟨_, l21, X0, R.inst ew, _, rfl, ?_⟩
    refine h_done (vs := [v]) R ew (by simp) (fun u hu => by rw [List.mem_singleton.mp hu, ho]; exact decide_eq_true hvW) fun hp5 w5 N R5 ew5 e5 dj5 => ?_
    have S5 := S4.step e5 ew5 dj5
    have hv' := mem_keysN.mp hvk
    refine ⟨_, l15, _, rfl, hv'.1, by (first | lia | omega), by decide, ?_⟩
    have I2 := idl_add hst n5 I hvk hr
    obtain ⟨_, _, ab⟩ := add_bits n5 I.1 hvk hr.1
    refine k _ hb hp5 (m + pw v) (W.eraseIdx j.toNat) w5 _ _ _ (fun j a b => (setv_ne _ _ a).trans (setv_ne _ _ b)) ?_ (Ext.refl _) ⟨I2, R5, fun u hu => ?_, fun u => ?_, d1⟩ S5
    · refine (setv_self ..).trans ?_
      rw [pw_cast, Int.natCast_add]
    · rw [ab u hu]
      unfold addB
      rw [hd u hu]
      congr 1
      simp
    · unfold subB
      rw [ho, Bool.eq_iff_iff, Bool.and_eq_true, decide_eq_true_eq, decide_eq_true_eq, Bool.not_eq_true', decide_eq_false_iff_not, List.mem_singleton, d2]
  · exact k lo hb hp2 m W w don out Rs (fun _ _ _ => rfl) l15 (Ext.refl _) ⟨I, R, hd, ho, hW⟩ (S.ext g2.e).rot
theorem rn_body (T : TK n st cs rg fr lo h9 w1 hbK X n1 keys) (eK : Ext hbK hb) (H : RnI n st m W w X0 don out Rs) (S : Sep hb [w, LH lw W] hp) (l6 : lo 6 = some (.int i)) (hi : i ≤ n) (l15 : lo 15 = some (.int m)) (l21 : lo 21 = some (.ref X0)) (l23 : lo 23 = some (.ref lw))
    (k : ∀ lo' hb' hp' m' W' w' don' out' Rs', (∀ j, j ≠ 15 → j ≠ 17 → lo' j = lo j) → lo' 15 = some (.int (m' : Nat)) → Ext hb hb' → RnI n st m' W' w' X0 don' out' Rs' → Sep hb' [w', LH lw W'] hp' → Q .next ⟨lo', hp'⟩) : rnBody Q E ⟨lo, hp⟩ := by
  have L := T.L
  have n5 := L.n5
  have hst := L.hst
  have ew := S.e w (List.mem_cons_self ..)
  have hlw : hp lw = some (.list (intsA W)) := S.e _ (List.mem_cons_of_mem _ (List.mem_cons_self ..)) _ _ lh_self
  obtain ⟨an, am⟩ := H.all hst
  have hWl : (W ++ Rs).length ≤ n := by
    have := len_sub (keys := keysN n) an fun k hk => ((am k).mp hk).1
    rwa [len_keysN] at this
  refine ⟨_, l23, ⟨lw, _, rfl, hlw, rfl⟩, _, l21, X0, H.R.inst ew, ?_⟩
  dsimp only [lNil]
  refine h_ready H.R ew fun hp2 w2 t zt R2 ew2 e2 ht dj => ?_
  have S2 := S.stepT e2 ew2 zt ht dj
  have S2' : Sep (upd hb t (.tup (intsA Rs))) [LH lw W, w2] hp2 := S2.rot
  have hlw2 : hp2 lw = some (.list (intsA W)) := S2'.e _ (List.mem_cons_self ..) _ _ lh_self
  refine ⟨_, _, hlw2, .inr ht, ?_, ?_⟩
  · rw [List.length_append] at hWl
    rw [List.length_map, List.length_map]; (first | lia | omega)
  have eb : Ext hb (upd hb t (.tup (intsA Rs))) := Ext.new _ (S.s.none zt)
  have e0 : intsA W ++ intsA Rs = intsA (W ++ Rs) := (List.map_append ..).symm
  rw [e0]
  have S3 := S2'.set (a := lw) (o := .list (intsA (W ++ Rs))) (by rw [lh_self]; nofun)
  rw [lh_set] at S3
  generalize upd hb t (.tup (intsA Rs)) = hb3 at eb S3
  dsimp only
  generalize upd hp2 lw (.list (intsA (W ++ Rs))) = hp3 at S3
  obtain ⟨s3, e3⟩ := S3.know
  have eKL : Ext hbK (uni hb3 (LH lw (W ++ Rs))) := eK.trans (eb.trans uni_l)
  have mk : (m : Int) ∈ keys := (in_keys hst n5 T.K).mpr ⟨m, rfl, H.I⟩
  have pm := succ_perm hst n5 H.I an am
  obtain ⟨own, d, rec, suc, SS⟩ := T.srt
  refine s_next (s_if (hb := uni hb3 (LH lw (W ++ Rs))) (c := false) (zt_cast (zt_bool (z_neL (z_sorted (z_suc (SS.ext eKL) (i := 13) T.l13 (z_nameI l15) mk) (by rw [pm.length_eq, List.length_map]; (first | lia | omega)) (srtL_perm _) (srtL_sorted _)) (z_sorted (m := srtL (succS (tabL st n (2 ^ n)) m)) (z_compN (S := VI) (R := VI) (f := fun k => ((m + pw k : Nat) : Int)) (zs_list (z_nameL (i := 23) l23 (e3 _ _ lh_self))) (by (first | lia | omega)) ?_) (by rw [List.length_map]; (first | lia | omega)) ((srtL_perm _).trans pm) (srtL_sorted _)))) (by simp)) s3 nofun fun _ hb4 hp4 g4 => ?_)
  · rintro x hx _ hb5 e5 rfl
    have hxk := mem_keysN.mp ((am x).mp hx).1
    exact z_cast (z_add (z_nameI (i := 1) l15) (z_pow z_int (z_nameI (i := 0) rfl) hxk.1 (by (first | lia | omega)) (by decide))) (by rw [pw_cast, Int.natCast_add])
  · refine rn_tail L (eK.trans eb) H.I an am R2 H.hd (fun k => ?_) (S3.ext g4.e) l6 hi l15 l21 l23 fun lo' hb' hp' m' W' w' don' out' Rs' f a b c d => k lo' hb' hp' m' W' w' don' out' Rs' f a (eb.trans b) c d
    rw [H.ho, Bool.eq_iff_iff, Bool.or_eq_true, decide_eq_true_eq, decide_eq_true_eq, decide_eq_true_eq, List.mem_append]
end
end
section
section
variable {lo : Loc} {hb hp : AH} {i : Nat} {t : Addr} {l m : List Int}
/-- the items of a tuple -/
theorem zs_tup (h : lo i = some (.ref t)) (ht : hb t = some (.tup (intsA l))) : ZS (iSeq (pName i)) VI l lo hb := fun hp s Q E k =>
  ⟨_, h, t, rfl, .inr (.inl ⟨_, s _ _ ht, k _ _ _ _ (.refl s) (All2.ints.mpr rfl) fun σ eσ => eσ _ _ ht⟩)⟩
theorem z_sortedT (h : lo i = some (.ref t)) (ht : hb t = some (.tup (intsA l))) (hl : l.length < 64) (hp' : m.Perm l) (hs : m.Pairwise (· ≤ ·)) : Z (pBi opSorted (lCons (pName i) lNil)) (VL VI) m lo hb := fun hp s Q E k =>
  ⟨_, h, l, .inr (s _ _ ht), hl, fun b ns' zb hp3 hs' => by
    rw [sorted_eq (hp3.trans hp'.symm) hs' hs]
    exact k _ _ _ (Gr.new s _ zb) (vl_ints.mpr ⟨b, rfl, upd_self ..⟩)⟩
end
section
variable {st : List (Int × Int)} {n m i : Nat} {cs rg fr keys : List Int} {lo lo' : Loc} {hb hp hbK h9 w1 w : AH} {X n1 X0 lw : Addr} {W Rs : List Int} {don out : Int → Bool} {Q : Fl → St → Prop} {E : Ex → St → Prop} {rest : SP}
theorem TK.loc (T : TK n st cs rg fr lo h9 w1 hbK X n1 keys) (f : ∀ j ∈ [1, 3, 4, 5, 9, 10, 13], lo' j = lo j) : TK n st cs rg fr lo' h9 w1 hbK X n1 keys :=
  ⟨T.L.ext (Ext.refl _) fun j hj => f j (List.mem_append_left [13] hj), (f 13 (by decide)).trans T.l13, T.eb, T.e1, T.W, T.K⟩
noncomputable def rnLoop : SP := (sFor (iRange (lCons (pBin opAdd (pName 3) (pInt 1)) lNil)) (aName 6) rnBody)
theorem lw_run (T : TK n st cs rg fr lo h9 w1 hbK X n1 keys) (s : Ext hbK hp) (R : RS w X0 (keysN n) (succS st) ffB ffB Rs) (ew : Ext w hp) (dj : Dj w hbK) (l21 : lo 21 = some (.ref X0))
    (k : ∀ lo' hp', (∀ j, j ≠ 6 → j ≠ 15 → j ≠ 17 → j ≠ 23 → lo' j = lo j) → Ext hbK hp' → rest Q E ⟨lo', hp'⟩) :
    (sSeq (sPair (lCons (pInt 0) (lCons (pList lNil) lNil)) [15, 23]) (sSeq rnLoop rest)) Q E ⟨lo, hp⟩ := by
  have n5 := T.L.n5
  have hst := T.L.hst
  have S0 : Sep hbK [w] hp := ⟨s, fun u hu => by rw [List.mem_singleton.mp hu]; exact ew, fun u hu => by rw [List.mem_singleton.mp hu]; exact dj, List.pairwise_singleton ..⟩
  refine ⟨by decide, fun lw zl => ⟨rfl, fun t zt => ?_⟩⟩
  have S1 : Sep hbK [w, LH lw []] (upd hp lw (.list [])) := by
    have x := Ext.new (.list []) zl
    refine ⟨S0.s.trans x, fun u hu => ?_, fun u hu a ha => ?_, List.pairwise_cons.mpr ⟨fun u hu a ha => ?_, List.pairwise_singleton ..⟩⟩
    · rcases List.mem_cons.mp hu with rfl | hu
      · exact ew.trans x
      · rw [List.mem_singleton.mp hu]
        intro a o h
        unfold LH at h
        by_cases q : a = lw
        · rw [q, upd_self] at h ⊢; exact h
        · rw [upd_ne q] at h; cases h
    · rcases List.mem_cons.mp hu with rfl | hu
      · exact dj a ha
      · rw [List.mem_singleton.mp hu] at ha
        unfold LH at ha
        by_cases q : a = lw
        · rw [q]; exact s.none zl
        · rw [upd_ne q] at ha; exact absurd rfl ha
    · rw [List.mem_singleton.mp hu]
      have q : a ≠ lw := fun q => by rw [q] at ha; exact ha (ew.none zl)
      unfold LH
      rw [upd_ne q]; rfl
  have g2 := Gr.new S1.s (.tup [.int 0, .ref lw]) zt
  have S2 := S1.gr g2
  generalize upd hbK t (.tup [.int 0, .ref lw]) = hb2 at g2 S2
  dsimp only
  generalize upd (upd hp lw (.list [])) t (.tup [.int 0, .ref lw]) = hp2 at g2 S2
  have e1 : ((n : Int) + 1) = ((n + 1 : Nat) : Int) := by (first | lia | omega)
  refine s_next (s_for (lo := setvs lo [15, 23] [.int 0, .ref lw]) (hb := hb2) (zs_range (n := n + 1) (e1 ▸ z_add (z_nameI (i := 3) (x := n) T.L.l3) z_int) (by (first | lia | omega))) S2.s fun hb3 hp3 g3 => ⟨fun i lo2 hp4 => i ≤ n + 1 ∧ (∀ j, j ≠ 6 → j ≠ 15 → j ≠ 17 → j ≠ 23 → lo2 j = lo j) ∧ lo2 23 = some (.ref lw) ∧ ∃ (m : Nat) (W : List Int) (w' : AH) (don out : Int → Bool) (Rs : List Int) (hb4 : AH), lo2 15 = some (.int m) ∧ Ext hb3 hb4 ∧ RnI n st m W w' X0 don out Rs ∧ Sep hb4 [w', LH lw W] hp4, ⟨Nat.zero_le _, fun j _ a _ c => (setv_ne _ _ c).trans (setv_ne _ _ a), rfl, 0, [], w, ffB, ffB, Rs, hb3, rfl, Ext.refl _, ⟨idl_zero hst, R, fun k _ => ?_, fun k => rfl, List.nodup_nil⟩, S2.gr g3⟩, fun i lo2 hp4 h => ?_, ?_, ?_⟩)
  · unfold bit ffB; simp
  · obtain ⟨_, _, _, m, W, w', don, out, Rs', hb4, _, e4, _, S4⟩ := h
    exact e4.trans S4.s
  · rintro i x u lo2 hp4 hi rfl ⟨_, f, m23, m, W, w', don, out, Rs', hb4, m15, e4, H, S4⟩
    obtain ⟨hlt, _⟩ := List.getElem?_eq_some_iff.mp hi
    rw [len_keysN] at hlt
    rw [get_keysN hlt] at hi
    cases hi
    have T' : TK n st cs rg fr (setv lo2 6 (.int i)) h9 w1 hbK X n1 keys := T.loc fun j hj => by
      simp only [List.mem_cons, List.not_mem_nil, or_false] at hj
      rcases hj with rfl | rfl | rfl | rfl | rfl | rfl | rfl <;> exact f _ (by decide) (by decide) (by decide) (by decide)
    refine rn_body (lo := setv lo2 6 (.int i)) T' (g2.b.trans (g3.b.trans e4)) H S4 rfl (by (first | lia | omega)) m15 ((f 21 (by decide) (by decide) (by decide) (by decide)).trans l21) m23 fun lo5 hb5 hp5 m5 W5 w5 don5 out5 Rs5 f5 a5 e5 H5 S5 => ⟨hlt, fun j a b c d => (f5 j b c).trans ((setv_ne _ _ a).trans (f j a b c d)), (f5 23 (by decide) (by decide)).trans m23, m5, W5, w5, don5, out5, Rs5, hb5, a5, e4.trans e5, H5, S5⟩
  · rintro lo2 hp4 ⟨_, f, m23, m, W, w', don, out, Rs', hb4, m15, e4, H, S4⟩
    exact k lo2 hp4 f (g2.b.trans (g3.b.trans (e4.trans S4.s)))
theorem tc_lt {succ : Int → List Int} (h : ∀ v, ∀ x ∈ succ v, v < x) {a b : Int} (t : TC succ a b) : a < b := by
  induction t with
  | one e => exact h _ _ e
  | more _ e ih => exact Int.lt_trans ih (h _ _ e)
theorem h_prep {Q : AV → AH → Prop} {E : Ex → AH → Prop} {cnt : Int → Int} {succ : Int → List Int} {n2i : Addr} (B : BS w X n2i keys cnt succ) (ew : Ext w hp) (hc : ∀ k ∈ keys, cnt k = ind keys succ (fun _ => false) k) (hsub : ∀ v ∈ keys, ∀ w ∈ succ v, w ∈ keys) (hz : keys.length < 1000) (up : ∀ v, ∀ x ∈ succ v, v < x)
    (k : ∀ hp' w' Rs, RS w' X keys succ ffB ffB Rs → Ext w' hp' → Ext (rst hp w) hp' → (∀ a, w' a ≠ none → rst hp w a = none) → Q .none hp') : fp_prepare [.ref X] Q E hp := by
  have B2 : BldN eH (rst hp w) hp X n2i keys cnt succ := B.put ew rst_ext eH_ext fun a ha => ⟨rst_out ha, rfl⟩
  refine b_prep B2.toB hc hsub hz (fun hp' Rs B3 _ => ?_) fun hp' Rs B3 h => ?_
  · obtain ⟨w', R, e, dj⟩ := B3.cut
    exact k hp' w' Rs R e B3.s fun a ha => (dj a ha).1
  · obtain ⟨j, _, t⟩ := h
    exact absurd (tc_lt up t) (Int.lt_irrefl _)
theorem cntP_pc : pc n m = (keysN n).countP (bit m) := by unfold pc namesOf; rw [List.countP_eq_length_filter]
theorem pc_add (hn : n ≤ 5) (hm : m < 2 ^ n) {k : Int} (hk : k ∈ keysN n) (hb : bit m k = false) : pc n (m + pw k) = pc n m + 1 := by
  rw [cntP_pc, cntP_pc, ← cntP_set (nodup_keysN n) hk hb]
  obtain ⟨_, _, h⟩ := add_bits hn hm hk hb
  refine List.countP_congr fun j hj => ?_
  rw [h j hj]
  unfold setB
  by_cases q : j = k
  · rw [if_pos q]; simp [q]
  · rw [if_neg q]; simp [q]
theorem pc_zero : pc n 0 = 0 := by
  rw [cntP_pc, List.countP_eq_zero]
  intro k _ h
  unfold bit at h
  simp at h
end
end
section
section
variable {st : List (Int × Int)} {n m r : Nat} {keys keys2 os : List Int} {w0 w1 w2 : AH} {X0 X1 X2 : Addr} {d0 d1 d2 o0 o1 o2 : Int → Bool} {R0 R1 R2 : List Int}
/-- the three sorters ahead of round r -/
structure R3 (n : Nat) (st : List (Int × Int)) (keys keys2 os : List Int) (r : Nat) (w0 w1 w2 : AH) (X0 X1 X2 : Addr) (d0 d1 d2 o0 o1 o2 : Int → Bool) (R0 R1 R2 : List Int) : Prop where
  G0 : RS w0 X0 (keysN n) (succS st) d0 o0 R0
  G1 : RS w1 X1 keys (succS (tabL st n (2 ^ n))) d1 o1 R1
  G2 : RS w2 X2 keys2 (succS (smAll os os)) d2 o2 R2
  z0 : ∀ k, o0 k = false
  z1 : ∀ k, o1 k = false
  z2 : ∀ k, o2 k = false
  f0 : ∀ k, d0 k = true → Fre st n k
  f1 : ∀ m, Idl st n m → d1 (m : Nat) = decide (pc n m < r)
  f2 : ∀ k ∈ keysN n, Fre st n k → d2 (dn st n k : Nat) = d0 k
variable (hst : ∀ p ∈ st, p.1 ∈ keysN n ∧ p.2 ∈ keysN n) (hn : n ≤ 5)
include hst hn
theorem dn_sub {x k : Int} (hx : x ∈ keysN n) (hk : k ∈ keysN n) (Fx : Fre st n x) (Fk : Fre st n k) : (subI (dn st n x : Nat) (dn st n k : Nat) = true ∧ ((dn st n x : Nat) : Int) ≠ (dn st n k : Nat)) ↔ T st x k := by
  obtain ⟨a1, a2⟩ := dn_bits hst hn hx Fx
  obtain ⟨b1, b2⟩ := dn_bits hst hn hk Fk
  rw [decide_eq_true_eq, bitOr_nat, Int.ofNat_inj]
  constructor
  · rintro ⟨h1, h2⟩
    have h3 : bit (dn st n k) x = true := by rw [← h1, bit_or, (a2 x hx).mpr (.inr rfl)]; rfl
    refine ((b2 x hx).mp h3).resolve_right fun e => h2 (by rw [e])
  · intro t
    refine ⟨mask_ext (or_lt a1 b1) b1 fun j hj => ?_, fun e => ?_⟩
    · rw [bit_or]
      cases q : bit (dn st n x) j with
      | false => rfl
      | true =>
        refine ((b2 j hj).mpr (.inl ?_)).symm
        exact ((a2 j hj).mp q).elim (fun q => q.trans t) fun q => q ▸ t
    · have := dn_inj hst hn hx hk Fx Fk (Int.ofNat_inj.mp e)
      subst this
      exact Fk.1 t
theorem tab_up (v : Int) (x : Int) (h : x ∈ succS (tabL st n (2 ^ n)) v) : v < x := by
  obtain ⟨a, k, h1, h2, h3, e⟩ := (mem_TL hst hn).mp (mem_succS.mp h)
  obtain ⟨rfl, rfl⟩ := Prod.mk.inj e
  have := (add_bits hn h1.1 h2 h3.1).1
  (first | lia | omega)
omit hst hn in
theorem sm_up (om : ∀ x, x ∈ os ↔ ∃ k ∈ keysN n, Fre st n k ∧ x = (dn st n k : Nat)) (v : Int) (x : Int) (h : x ∈ succS (smAll os os) v) : v < x := by
  obtain ⟨h1, h2, h3, h4⟩ := mem_smAll.mp (mem_succS.mp h)
  obtain ⟨a, _, _, e1⟩ := (om v).mp h1
  obtain ⟨b, _, _, e2⟩ := (om x).mp h2
  dsimp only at h3 h4
  subst e1 e2
  rw [decide_eq_true_eq, bitOr_nat, Int.ofNat_inj] at h3
  have : dn st n a ≤ dn st n b := by rw [← h3]; exact Nat.left_le_or
  (first | lia | omega)
variable (H : R3 n st keys keys2 os r w0 w1 w2 X0 X1 X2 d0 d1 d2 o0 o1 o2 R0 R1 R2)
include H
theorem R3.mem1 (K : KeysOf keys (tabL st n (2 ^ n))) (j : Int) : j ∈ R1 ↔ ∃ m : Nat, j = m ∧ Idl st n m ∧ pc n m = r := by
  have hm := H.G1.mem (k := j)
  rw [hm, in_keys hst hn K]
  constructor
  · rintro ⟨⟨m, rfl, I⟩, h1, _, h2⟩
    refine ⟨m, rfl, I, ?_⟩
    rw [H.f1 m I, decide_eq_false_iff_not] at h1
    by_cases q : m = 0
    · subst q; rw [pc_zero] at h1 ⊢; (first | lia | omega)
    · obtain ⟨y, e1, e2, e3⟩ := has_top hst I q
      obtain ⟨g1, g2, g3⟩ := idl_sub hst hn I e1 e2 e3
      have := h2 ((m - pw y : Nat) : Int) ((in_keys hst hn K).mpr ⟨_, rfl, g1⟩) (mem_succS.mpr ((mem_TL hst hn).mpr ⟨_, y, g1, e1, g2, by rw [g3]⟩))
      rw [H.f1 _ g1, decide_eq_true_eq] at this
      have h3 := pc_add hn g1.1 e1 g2.1
      rw [g3] at h3
      (first | lia | omega)
  · rintro ⟨m, rfl, I, h⟩
    refine ⟨⟨m, rfl, I⟩, ?_, H.z1 _, fun v hv hs => ?_⟩
    · rw [H.f1 m I, decide_eq_false_iff_not]; (first | lia | omega)
    · obtain ⟨a, k, h1, h2, h3, e⟩ := (mem_TL hst hn).mp (mem_succS.mp hs)
      obtain ⟨rfl, e2⟩ := Prod.mk.inj e
      have e2 := Int.ofNat_inj.mp e2
      subst e2
      rw [H.f1 a h1, decide_eq_true_eq]
      have := pc_add hn h1.1 h2 h3.1
      (first | lia | omega)
omit hst hn H in
theorem mem_rowL {j : Int} : j ∈ rowL st n (2 ^ n) r ↔ ∃ m : Nat, j = m ∧ Idl st n m ∧ pc n m = r := by
  unfold rowL
  rw [List.mem_map]
  constructor
  · rintro ⟨v, h, rfl⟩
    have h2 := (List.mem_filter.mp h).2
    rw [Bool.and_eq_true, dec_iff, beq_iff_eq] at h2
    exact ⟨v, rfl, h2⟩
  · rintro ⟨m, rfl, I, h⟩
    refine ⟨m, List.mem_filter.mpr ⟨List.mem_range.mpr I.1, ?_⟩, rfl⟩
    rw [Bool.and_eq_true, dec_iff, beq_iff_eq]
    exact ⟨I, h⟩
omit hst hn H in
theorem rowL_sorted : (rowL st n (2 ^ n) r).Pairwise (· < ·) := by
  unfold rowL
  rw [List.pairwise_map]
  refine (List.Pairwise.filter _ List.pairwise_lt_range).imp fun h => ?_
  (first | lia | omega)
theorem R3.row (K : KeysOf keys (tabL st n (2 ^ n))) : (rowL st n (2 ^ n) r).Perm R1 :=
  (List.perm_ext_iff_of_nodup (rowL_sorted.imp fun h => Int.ne_of_lt h) H.G1.nodup).mpr fun j => mem_rowL.trans (R3.mem1 hst hn H K j).symm
omit hn in
theorem R3.mem0 (k : Int) : k ∈ R0 ↔ k ∈ keysN n ∧ d0 k = false ∧ ∀ f, (f, k) ∈ st → d0 f = true := by
  rw [H.G0.mem]
  constructor
  · rintro ⟨h1, h2, _, h3⟩; exact ⟨h1, h2, fun f hf => h3 f (hst _ hf).1 (mem_succS.mpr hf)⟩
  · rintro ⟨h1, h2, h3⟩; exact ⟨h1, h2, H.z0 k, fun v hv hk => h3 v (mem_succS.mp hk)⟩
omit hn in
theorem R3.fre0 (k : Int) (h : k ∈ R0) : Fre st n k := by
  obtain ⟨h1, h2, h3⟩ := (R3.mem0 hst H k).mp h
  exact ready_free hst h1 (fun f hf => H.f0 f (h3 f hf)) fun q => by have := h3 k q; rw [h2] at this; cases this
omit hn in
theorem R3.anc {x f : Int} (h : T st x f) (hd : d0 f = true) : d0 x = true := by
  induction h with
  | one e => exact (H.G0.isDon hd).2 _ (hst _ (mem_succS.mp e)).1 e
  | more _ e ih => exact ih ((H.G0.isDon hd).2 _ (hst _ (mem_succS.mp e)).1 e)
theorem R3.mem2 (om : ∀ x, x ∈ os ↔ ∃ k ∈ keysN n, Fre st n k ∧ x = (dn st n k : Nat)) (k2 : ∀ x, x ∈ keys2 ↔ x ∈ os) (j : Int) : j ∈ R2 ↔ ∃ k ∈ R0, j = (dn st n k : Nat) := by
  rw [H.G2.mem, k2, om]
  constructor
  · rintro ⟨⟨k, hk, F, rfl⟩, h1, _, h2⟩
    rw [H.f2 k hk F] at h1
    refine ⟨k, (R3.mem0 hst H k).mpr ⟨hk, h1, fun f hf => ?_⟩, rfl⟩
    have hfk := (hst _ hf).1
    have Ff := free_t hst hn F (T.of hf)
    have := (dn_sub hst hn hfk hk Ff F).mpr (T.of hf)
    rw [← H.f2 f hfk Ff]
    refine h2 _ ((k2 _).mpr ((om _).mpr ⟨f, hfk, Ff, rfl⟩)) (mem_succS.mpr (mem_smAll.mpr ⟨(om _).mpr ⟨f, hfk, Ff, rfl⟩, (om _).mpr ⟨k, hk, F, rfl⟩, this⟩))
  · rintro ⟨k, hk, rfl⟩
    have F := R3.fre0 hst H k hk
    obtain ⟨h1, h2, h3⟩ := (R3.mem0 hst H k).mp hk
    refine ⟨⟨k, h1, F, rfl⟩, by rw [H.f2 k h1 F]; exact h2, H.z2 _, fun v hv hs => ?_⟩
    obtain ⟨e1, e2, e3⟩ := mem_smAll.mp (mem_succS.mp hs)
    obtain ⟨x, hx, Fx, ex⟩ := (om _).mp e1
    dsimp only at ex e3
    subst ex
    have t := (dn_sub hst hn hx h1 Fx F).mp e3
    rw [H.f2 x hx Fx]
    obtain ⟨f, hf, q⟩ := T.last t
    rcases q with rfl | q
    · exact h3 _ hf
    · exact R3.anc hst H q (h3 f hf)
theorem R3.perm2 (om : ∀ x, x ∈ os ↔ ∃ k ∈ keysN n, Fre st n k ∧ x = (dn st n k : Nat)) (k2 : ∀ x, x ∈ keys2 ↔ x ∈ os) : R2.Perm (R0.map fun k => (dn st n k : Int)) := by
  refine (List.perm_ext_iff_of_nodup H.G2.nodup (nodup_map ?_ H.G0.nodup)).mpr fun j => ?_
  · intro a ha b hb e
    exact dn_inj hst hn ((R3.mem0 hst H a).mp ha).1 ((R3.mem0 hst H b).mp hb).1 (R3.fre0 hst H a ha) (R3.fre0 hst H b hb) (Int.ofNat_inj.mp e)
  · rw [R3.mem2 hst hn H om k2, List.mem_map]
    exact ⟨fun ⟨k, h, e⟩ => ⟨k, h, e.symm⟩, fun ⟨k, h, e⟩ => ⟨k, h, e.symm⟩⟩
theorem R3.next (K : KeysOf keys (tabL st n (2 ^ n))) (om : ∀ x, x ∈ os ↔ ∃ k ∈ keysN n, Fre st n k ∧ x = (dn st n k : Nat)) (k2 : ∀ x, x ∈ keys2 ↔ x ∈ os) {w0' w1' w2' : AH} {N0 N1 N2 : List Int}
    (G0 : RS w0' X0 (keysN n) (succS st) (addB d0 R0) (subB (fun k => o0 k || decide (k ∈ R0)) R0) N0) (G1 : RS w1' X1 keys (succS (tabL st n (2 ^ n))) (addB d1 R1) (subB (fun k => o1 k || decide (k ∈ R1)) R1) N1) (G2 : RS w2' X2 keys2 (succS (smAll os os)) (addB d2 R2) (subB (fun k => o2 k || decide (k ∈ R2)) R2) N2) :
    R3 n st keys keys2 os (r + 1) w0' w1' w2' X0 X1 X2 (addB d0 R0) (addB d1 R1) (addB d2 R2) (subB (fun k => o0 k || decide (k ∈ R0)) R0) (subB (fun k => o1 k || decide (k ∈ R1)) R1) (subB (fun k => o2 k || decide (k ∈ R2)) R2) N0 N1 N2 := by
  have key : ∀ {o : Int → Bool} {R : List Int}, (∀ k, o k = false) → ∀ k, subB (fun k => o k || decide (k ∈ R)) R k = false := fun {o R} h k => by
    show ((o k || decide (k ∈ R)) && !decide (k ∈ R)) = false
    rw [h k]
    cases decide (k ∈ R) <;> rfl
  refine ⟨G0, G1, G2, key H.z0, key H.z1, key H.z2, fun k hk => ?_, fun m I => ?_, fun k hk F => ?_⟩
  · unfold addB at hk
    rw [Bool.or_eq_true, decide_eq_true_eq] at hk
    exact hk.elim (H.f0 k) (R3.fre0 hst H k)
  · unfold addB
    rw [H.f1 m I, Bool.eq_iff_iff, Bool.or_eq_true, decide_eq_true_eq, decide_eq_true_eq, decide_eq_true_eq, R3.mem1 hst hn H K]
    constructor
    · rintro (h | ⟨m', e, _, h⟩)
      · (first | lia | omega)
      · have := Int.ofNat_inj.mp e; subst this; (first | lia | omega)
    · intro h
      by_cases q : pc n m = r
      · exact .inr ⟨m, rfl, I, q⟩
      · exact .inl (by (first | lia | omega))
  · unfold addB
    rw [H.f2 k hk F]
    congr 1
    rw [Bool.eq_iff_iff, decide_eq_true_eq, decide_eq_true_eq, R3.mem2 hst hn H om k2]
    constructor
    · rintro ⟨k', h, e⟩
      have := dn_inj hst hn hk ((R3.mem0 hst H k').mp h).1 F (R3.fre0 hst H k' h) (Int.ofNat_inj.mp e)
      rw [this]; exact h
    · intro h; exact ⟨k, h, rfl⟩
end
end
section
section
variable {st : List (Int × Int)} {n r : Nat} {cs rg fr keys keys2 os : List Int} {lo : Loc} {hb hp w0 w1 w2 : AH} {X0 X1 X2 : Addr} {d0 d1 d2 o0 o1 o2 : Int → Bool} {R0 R1 R2 : List Int} {Q : Fl → St → Prop} {E : Ex → St → Prop} {rest : SP}
noncomputable def rwTest : SP := (sIf (tOr (tOf (pBin opNe (pBi opSorted (lCons (pName 26) lNil)) (pName 24))) (tOf (pBin opNe (pBi opSorted (lCons (pName 27) lNil)) (pBi opSorted (lCons (pComp [none, some 5] (iSeq (pName 25)) (aName 0) (cTest none (cEmit (pBin opAdd (pBin opItem (pName 1) (pName 0)) (pBin opPow (pInt 2) (pName 0)))))) lNil))))) (sRet (pBool false)) sNil)
noncomputable def rwDone : SP := (sSeq (sExpr (pMeth (pName 21) fp_done (lStar (pName 25)))) (sSeq (sExpr (pMeth (pName 11) fp_done (lStar (pName 26)))) (sExpr (pMeth (pName 12) fp_done (lStar (pName 27))))))
noncomputable def rwBody : SP := (sSeq (sPair (lCons (pMeth (pName 21) fp_get_ready lNil) (lCons (pMeth (pName 11) fp_get_ready lNil) (lCons (pMeth (pName 12) fp_get_ready lNil) lNil))) [25, 26, 27]) (sSeq rwTest rwDone))
theorem rw_body (L : LE n st cs rg fr lo hb) (S : Sep hb [w0, w1, w2] hp) (H : R3 n st keys keys2 os r w0 w1 w2 X0 X1 X2 d0 d1 d2 o0 o1 o2 R0 R1 R2) (K : KeysOf keys (tabL st n (2 ^ n))) (om : ∀ x, x ∈ os ↔ ∃ k ∈ keysN n, Fre st n k ∧ x = (dn st n k : Nat)) (k2 : ∀ x, x ∈ keys2 ↔ x ∈ os)
    (l21 : lo 21 = some (.ref X0)) (l11 : lo 11 = some (.ref X1)) (l12 : lo 12 = some (.ref X2)) {v : AV} (l24 : lo 24 = some v) (hv : (VL VI).r (rowL st n (2 ^ n) r) v hb)
    (k : ∀ lo' hb' hp' w0' w1' w2' d0' d1' d2' o0' o1' o2' R0' R1' R2', (∀ j, j ≠ 25 → j ≠ 26 → j ≠ 27 → lo' j = lo j) → Ext hb hb' → Sep hb' [w0', w1', w2'] hp' → R3 n st keys keys2 os (r + 1) w0' w1' w2' X0 X1 X2 d0' d1' d2' o0' o1' o2' R0' R1' R2' → Q .next ⟨lo', hp'⟩) : rwBody Q E ⟨lo, hp⟩ := by
  have n5 := L.n5
  have hst := L.hst
  have p5 := pw5 n5
  obtain ⟨a5, m5, h5⟩ := L.x5
  refine ⟨_, l21, X0, H.G0.inst (S.e _ (List.mem_cons_self ..)), ?_⟩
  dsimp only [lNil]
  refine h_ready H.G0 (S.e _ (List.mem_cons_self ..)) fun hp1 w0' t0 zt0 A0 ew0 e0 ht0 dj0 => ?_
  have S1 : Sep (upd hb t0 (.tup (intsA R0))) [w1, w2, w0'] hp1 := (S.stepT e0 ew0 zt0 ht0 dj0).rot
  have b1 : Ext hb (upd hb t0 (.tup (intsA R0))) := Ext.new _ (S.s.none zt0)
  have q0 := upd_self hb t0 (.tup (intsA R0))
  generalize upd hb t0 (.tup (intsA R0)) = hb1 at S1 b1 q0
  refine ⟨_, l11, X1, H.G1.inst (S1.e _ (List.mem_cons_self ..)), ?_⟩
  refine h_ready H.G1 (S1.e _ (List.mem_cons_self ..)) fun hp2 w1' t1 zt1 A1 ew1 e1 ht1 dj1 => ?_
  have S2 : Sep (upd hb1 t1 (.tup (intsA R1))) [w2, w0', w1'] hp2 := (S1.stepT e1 ew1 zt1 ht1 dj1).rot
  have b2 : Ext hb1 (upd hb1 t1 (.tup (intsA R1))) := Ext.new _ (S1.s.none zt1)
  have q1 := upd_self hb1 t1 (.tup (intsA R1))
  generalize upd hb1 t1 (.tup (intsA R1)) = hb2 at S2 b2 q1
  refine ⟨_, l12, X2, H.G2.inst (S2.e _ (List.mem_cons_self ..)), ?_⟩
  refine h_ready H.G2 (S2.e _ (List.mem_cons_self ..)) fun hp3 w2' t2 zt2 A2 ew2 e2 ht2 dj2 => ?_
  have S3 : Sep (upd hb2 t2 (.tup (intsA R2))) [w0', w1', w2'] hp3 := (S2.stepT e2 ew2 zt2 ht2 dj2).rot
  have b3 : Ext hb2 (upd hb2 t2 (.tup (intsA R2))) := Ext.new _ (S2.s.none zt2)
  have q2 := upd_self hb2 t2 (.tup (intsA R2))
  generalize upd hb2 t2 (.tup (intsA R2)) = hb3 at S3 b3 q2
  refine ⟨rfl, fun t zt => ?_⟩
  have g := Gr.new S3.s (.tup [.ref t0, .ref t1, .ref t2]) zt
  have S4 := S3.gr g
  have bb : Ext hb (upd hb3 t (.tup [.ref t0, .ref t1, .ref t2])) := b1.trans (b2.trans (b3.trans g.b))
  have q0' := g.b _ _ (b3 _ _ (b2 _ _ q0))
  have q1' := g.b _ _ (b3 _ _ q1)
  have q2' := g.b _ _ q2
  generalize upd hb3 t (.tup [.ref t0, .ref t1, .ref t2]) = hb4 at g S4 bb q0' q1' q2'
  dsimp only
  generalize upd hp3 t (.tup [.ref t0, .ref t1, .ref t2]) = hp4 at g S4
  have pr := R3.row hst n5 H K
  have pm := R3.perm2 hst n5 H om k2
  have r1l : R1.length < 64 := by
    rw [← pr.length_eq]
    have := rowL_len (st := st) (n := n) (m := 2 ^ n) (i := r)
    (first | lia | omega)
  have r0l : R0.length ≤ n := by
    have := len_sub (keys := keysN n) H.G0.nodup fun k hk => ((R3.mem0 hst H k).mp hk).1
    rwa [len_keysN] at this
  have r2l : R2.length < 64 := by rw [pm.length_eq, List.length_map]; (first | lia | omega)
  refine s_next (s_if (lo := setvs lo [25, 26, 27] [.ref t0, .ref t1, .ref t2]) (hb := hb4) (c := false) (zt_cast (zt_or (zt_bool (z_neL (z_sortedT (i := 26) (t := t1) rfl q1' r1l pr (rowL_sorted.imp fun h => Int.le_of_lt h)) (z_name (i := 24) l24 ((VL VI).m bb hv)))) fun _ => zt_bool (z_neL (z_sortedT (i := 27) (t := t2) rfl q2' r2l (srtL_perm _) (srtL_sorted _)) (z_sorted (m := srtL R2) (z_compN (S := VI) (R := VI) (f := fun k => (dn st n k : Int)) (zs_tup (i := 25) (t := t0) rfl q0') (by (first | lia | omega)) ?_) (by rw [List.length_map]; (first | lia | omega)) ((srtL_perm _).trans pm) (srtL_sorted _)))) (by simp)) S4.s nofun fun _ hb5 hp5 g5 => ?_)
  · rintro x hx _ hb5 e5 rfl
    have hxk := ((R3.mem0 hst H x).mp hx).1
    exact z_cast (z_add (z_keyItem (z_nameL (i := 1) m5 (e5 _ _ (bb _ _ h5))) (z_nameI rfl) hxk) (z_pow z_int (z_nameI rfl) (mem_keysN.mp hxk).1 (by have := mem_keysN.mp hxk; (first | lia | omega)) (by decide))) (dn_cast x)
  have S5 := S4.gr g5
  have c0 := g5.b _ _ q0'
  have c1 := g5.b _ _ q1'
  have c2 := g5.b _ _ q2'
  have oR : ∀ {o : Int → Bool} {R : List Int}, ∀ v ∈ R, (fun k => o k || decide (k ∈ R)) v = true := fun {o R} v hv => by
    show (o v || decide (v ∈ R)) = true
    rw [decide_eq_true hv, Bool.or_true]
  refine ⟨_, l21, X0, A0.inst (S5.e _ (List.mem_cons_self ..)), _, rfl, t0, _, rfl, .inr (S5.s _ _ c0), ?_⟩
  refine h_done A0 (S5.e _ (List.mem_cons_self ..)) H.G0.nodup oR fun hp6 w0'' N0 B0 ew6 e6 dj6 => ?_
  have S6 : Sep hb5 [w1', w2', w0''] hp6 := (S5.step e6 ew6 dj6).rot
  refine ⟨_, l11, X1, A1.inst (S6.e _ (List.mem_cons_self ..)), _, rfl, t1, _, rfl, .inr (S6.s _ _ c1), ?_⟩
  refine h_done A1 (S6.e _ (List.mem_cons_self ..)) H.G1.nodup oR fun hp7 w1'' N1 B1 ew7 e7 dj7 => ?_
  have S7 : Sep hb5 [w2', w0'', w1''] hp7 := (S6.step e7 ew7 dj7).rot
  refine ⟨_, l12, X2, A2.inst (S7.e _ (List.mem_cons_self ..)), _, rfl, t2, _, rfl, .inr (S7.s _ _ c2), ?_⟩
  refine h_done A2 (S7.e _ (List.mem_cons_self ..)) H.G2.nodup oR fun hp8 w2'' N2 B2 ew8 e8 dj8 => ?_
  have S8 : Sep hb5 [w0'', w1'', w2''] hp8 := (S7.step e8 ew8 dj8).rot
  exact k _ hb5 hp8 w0'' w1'' w2'' _ _ _ _ _ _ _ _ _ (fun j a b c => (setv_ne _ _ c).trans ((setv_ne _ _ b).trans (setv_ne _ _ a))) (bb.trans g5.b) S8 (R3.next hst n5 H K om k2 B0 B1 B2)
end
end
section
section
variable {st : List (Int × Int)} {n r : Nat} {cs rg fr keys keys2 os : List Int} {lo : Loc} {hb hbK hp w w0 w1 w2 : AH} {X n1 X2 n2 lr : Addr} {Q : Fl → St → Prop} {E : Ex → St → Prop} {rest : SP}
theorem BS.inst {X n2i : Addr} {cnt : Int → Int} {succ : Int → List Int} {lo : Loc} (B : BS w X n2i keys cnt succ) (ew : Ext w hp) : isInst ⟨lo, hp⟩ (.ref X) X := by
  have B2 : BldN eH (rst hp w) hp X n2i keys cnt succ := B.put ew rst_ext eH_ext fun a ha => ⟨rst_out ha, rfl⟩
  exact B2.toB.inst
noncomputable def rwLoop : SP := sFor (iSeq (pName 14)) (aName 24) rwBody
theorem lw_rows (L : LE n st cs rg fr lo hb) (S : Sep hb [w0, w1, w2] hp) {Rs : List Int} {X0 : Addr} (A0 : RS w0 X0 (keysN n) (succS st) ffB ffB Rs) (W1 : BS w1 X n1 keys (cntS (tabL st n (2 ^ n))) (succS (tabL st n (2 ^ n)))) (K : KeysOf keys (tabL st n (2 ^ n)))
    (W2 : BS w2 X2 n2 keys2 (cntS (smAll os os)) (succS (smAll os os))) (om : ∀ x, x ∈ os ↔ ∃ k ∈ keysN n, Fre st n k ∧ x = (dn st n k : Nat)) (k2 : keys2.Nodup ∧ ∀ x, x ∈ keys2 ↔ x ∈ os)
    (l21 : lo 21 = some (.ref X0)) (l11 : lo 11 = some (.ref X)) (l12 : lo 12 = some (.ref X2)) (l14 : lo 14 = some (.ref lr)) (rows : (VL (VL VI)).r ((List.range (n + 1)).map (rowL st n (2 ^ n))) (.ref lr) hb)
    (k : ∀ lo' hp', rest Q E ⟨lo', hp'⟩) :
    (sSeq (sExpr (pMeth (pName 11) fp_prepare lNil)) (sSeq (sExpr (pMeth (pName 12) fp_prepare lNil)) (sSeq rwLoop rest))) Q E ⟨lo, hp⟩ := by
  have n5 := L.n5
  have hst := L.hst
  have S1 : Sep hb [w1, w2, w0] hp := S.rot
  have hk2 : ∀ x ∈ keys2, x ∈ keysN 32 := fun x hx => by
    obtain ⟨j, hj, F, rfl⟩ := (om x).mp ((k2.2 x).mp hx)
    have := (dn_bits hst n5 hj F).1
    have := pw5 n5
    exact mem_keysN.mpr (by (first | lia | omega))
  have l2 : keys2.length ≤ 32 := by have := len_sub k2.1 hk2; rwa [len_keysN] at this
  refine ⟨_, l11, X, W1.inst (S1.e _ (List.mem_cons_self ..)), ?_⟩
  dsimp only [lNil]
  refine h_prep W1 (S1.e _ (List.mem_cons_self ..)) (fun j _ => cntS_ind K.1 K.2.2 j) (fun v _ x hx => (K.2.1 x).mpr (.inr ⟨_, mem_succS.mp hx, rfl⟩)) (by have := keys_len hst n5 K; (first | lia | omega)) (tab_up hst n5) fun hp1 w1' R1 A1 ew1 e1 dj1 => ?_
  have S2 : Sep hb [w2, w0, w1'] hp1 := (S1.step e1 ew1 dj1).rot
  refine ⟨_, l12, X2, W2.inst (S2.e _ (List.mem_cons_self ..)), ?_⟩
  refine h_prep W2 (S2.e _ (List.mem_cons_self ..)) (fun j _ => cntS_ind k2.1 (fun p hp => (k2.2 _).mpr (mem_smAll.mp hp).1) j) (fun v _ x hx => (k2.2 x).mpr (mem_smAll.mp (mem_succS.mp hx)).2.1) (by (first | lia | omega)) (sm_up om) fun hp2 w2' R2 A2 ew2 e2 dj2 => ?_
  have S3 : Sep hb [w0, w1', w2'] hp2 := (S2.step e2 ew2 dj2).rot
  have H : R3 n st keys keys2 os 0 w0 w1' w2' X0 X X2 ffB ffB ffB ffB ffB ffB Rs R1 R2 := ⟨A0, A1, A2, fun _ => rfl, fun _ => rfl, fun _ => rfl, nofun, fun m _ => (decide_eq_false (Nat.not_lt_zero _)).symm, fun _ _ _ => rfl⟩
  refine s_next (s_for (hb := hb) (zs_list (z_name (i := 14) l14 rows)) S3.s fun hb3 hp3 g3 => ⟨fun i lo2 hp4 => (∀ j, j ≠ 24 → j ≠ 25 → j ≠ 26 → j ≠ 27 → lo2 j = lo j) ∧ ∃ (hb4 w0 w1 w2 : AH) (d0 d1 d2 o0 o1 o2 : Int → Bool) (R0 R1 R2 : List Int), Ext hb3 hb4 ∧ Sep hb4 [w0, w1, w2] hp4 ∧ R3 n st keys keys2 os i w0 w1 w2 X0 X X2 d0 d1 d2 o0 o1 o2 R0 R1 R2, ⟨fun _ _ _ _ _ => rfl, hb3, _, _, _, _, _, _, _, _, _, _, _, _, Ext.refl _, S3.gr g3, H⟩, fun i lo2 hp4 h => ?_, ?_, fun lo2 hp4 _ => k lo2 hp4⟩)
  · obtain ⟨_, hb4, _, _, _, _, _, _, _, _, _, _, _, _, e4, S4, _⟩ := h
    exact e4.trans S4.s
  · rintro i x v lo2 hp4 hi hv ⟨f, hb4, u0, u1, u2, d0, d1, d2, o0, o1, o2, R0, R1', R2', e4, S4, H4⟩
    rw [List.getElem?_map] at hi
    obtain ⟨j, hj, rfl⟩ := Option.map_eq_some_iff.mp hi
    obtain ⟨q, e⟩ := List.getElem?_eq_some_iff.mp hj
    rw [List.getElem_range] at e
    subst e
    refine rw_body (lo := setv lo2 24 v) (L.ext (g3.b.trans e4) fun j hj => ?_) S4 H4 K om k2.2 ((f 21 (by decide) (by decide) (by decide) (by decide)).trans l21) ((f 11 (by decide) (by decide) (by decide) (by decide)).trans l11) ((f 12 (by decide) (by decide) (by decide) (by decide)).trans l12) rfl ((VL VI).m e4 hv) fun lo5 hb5 hp5 _ _ _ _ _ _ _ _ _ _ _ _ f5 e5 S5 H5 => ⟨fun j a b c d => (f5 j b c d).trans ((setv_ne _ _ a).trans (f j a b c d)), hb5, _, _, _, _, _, _, _, _, _, _, _, _, e4.trans e5, S5, H5⟩
    simp only [List.mem_cons, List.not_mem_nil, or_false] at hj
    rcases hj with rfl | rfl | rfl | rfl | rfl | rfl <;> exact f _ (by decide) (by decide) (by decide) (by decide)
theorem lw_end (T : TS n st cs rg fr lo hb hbK hp w1 w2 X n1 X2 n2 lr keys os keys2) (k : ∀ lo' hp', rest Q E ⟨lo', hp'⟩) :
    (sSeq (sAssign (pCall fp_told (lCons (pName 4) (lCons (pName 3) lNil))) (aTuple [21, 22])) (sSeq (sIf (tOf (pBin opNe (pName 22) (pBin opNe (pName 9) (pList lNil)))) (sRet (pBool false)) sNil) (sSeq (sPair (lCons (pInt 0) (lCons (pList lNil) lNil)) [15, 23]) (sSeq rnLoop
      (sSeq (sAssign (pCall fp_told (lCons (pName 4) (lCons (pName 3) lNil))) (aTuple [21, 22])) (sSeq (sExpr (pMeth (pName 11) fp_prepare lNil)) (sSeq (sExpr (pMeth (pName 12) fp_prepare lNil)) (sSeq rwLoop rest)))))))) Q E ⟨lo, hp⟩ := by
  have LK := T.L.ext T.sep.s fun _ _ => rfl
  refine lw_told LK T.sk fun hp1 w X0 c Rs e1 R ew dj hc => ?_
  have LK1 : LE n st cs rg fr (setvs lo [21, 22] [.ref X0, .bool c]) hbK := LK.ext (Ext.refl _) fun j hj => by
    simp only [List.mem_cons, List.not_mem_nil, or_false] at hj
    rcases hj with rfl | rfl | rfl | rfl | rfl | rfl <;> rfl
  refine lw_ring LK1 (T.sk.trans e1) rfl hc fun hp2 e2 => ?_
  have TK1 : TK n st cs rg fr (setvs lo [21, 22] [.ref X0, .bool c]) hb w1 hbK X n1 keys := ⟨LK1, T.l13, T.sep.s, T.sep.e _ (List.mem_cons_self ..), T.W1, T.K⟩
  refine lw_run TK1 (T.sk.trans (e1.trans e2)) R (ew.trans e2) (fun a ha => T.sk.none (dj a ha)) rfl fun lo3 hp3 f3 s3 => ?_
  have fl : ∀ j, j ≠ 6 → j ≠ 15 → j ≠ 17 → j ≠ 23 → j ≠ 21 → j ≠ 22 → lo3 j = lo j := fun j a b c d e f => (f3 j a b c d).trans ((setv_ne _ _ f).trans (setv_ne _ _ e))
  have L3 : LE n st cs rg fr lo3 hb := T.L.ext (Ext.refl _) fun j hj => by
    simp only [List.mem_cons, List.not_mem_nil, or_false] at hj
    rcases hj with rfl | rfl | rfl | rfl | rfl | rfl <;> exact fl _ (by decide) (by decide) (by decide) (by decide) (by decide) (by decide)
  refine lw_told L3 (T.sep.s.trans s3) fun hp4 w0 X0' c' Rs' e4 R4 ew4 dj4 _ => ?_
  have S3 := T.sep.ext s3
  have S4 := S3.ext e4
  have S5 : Sep hb [w0, w1, w2] hp4 := by
    refine ⟨S4.s, fun u hu => ?_, fun u hu a ha => ?_, List.pairwise_cons.mpr ⟨fun u hu a ha => (S3.e u hu).none (dj4 a ha), S4.p⟩⟩
    · rcases List.mem_cons.mp hu with rfl | hu
      · exact ew4
      · exact S4.e u hu
    · rcases List.mem_cons.mp hu with rfl | hu
      · exact S3.s.none (dj4 a ha)
      · exact S4.b u hu a ha
  refine lw_rows (lo := setvs lo3 [21, 22] [.ref X0', .bool c']) (L3.ext (Ext.refl _) fun j hj => ?_) S5 R4 T.W1 T.K T.W2 T.om T.k2 rfl ((fl 11 (by decide) (by decide) (by decide) (by decide) (by decide) (by decide)).trans T.l11) ((fl 12 (by decide) (by decide) (by decide) (by decide) (by decide) (by decide)).trans T.l12) ((fl 14 (by decide) (by decide) (by decide) (by decide) (by decide) (by decide)).trans T.l14) T.rows k
  simp only [List.mem_cons, List.not_mem_nil, or_false] at hj
  rcases hj with rfl | rfl | rfl | rfl | rfl | rfl <;> rfl
end
theorem law_spec12 {hp : AH} {l : Addr} {ns : List Int} (hns : ns.length ≤ 63) (hl : hp l = some (.flist (intsA ns))) : pt_law (fun fl _ => retV fl = .bool true) noX ⟨fun i => [AV.ref l][i]?, hp⟩ := by
  unfold pt_law
  refine lw_size hl hns rfl fun lo1 hb1 hp1 lc cs n s1 l1 hc hcs l3 n2 n5 => ?_
  refine lw_env n2 n5 s1 l1 hc hcs l3 fun lo2 hb2 hp2 st rg fr s2 L => ?_
  refine lw_table L s2 fun lo3 hb3 w w' hp3 X n1 X2 n2 lr as keys W hw F l12 M K => ?_
  refine s_next (mk_masks F M K fun lo4 hb4 w4 hp4 keys4 M4 K4 => ?_)
  obtain ⟨hb5, T⟩ := tb_of F l12 W M4 K4
  refine lw_small T fun lo6 hb6 hbK hp6 w1 w2 os keys2 T6 => ?_
  refine lw_end T6 fun lo7 hp7 => ?_
  exact s_ret (hb := eH) z_bool eH_ext fun hb8 hp8 v _ hv => hv
end
section
theorem pok12 {P : PC} (hK : P.K = KK P.w.params) (hS : P.cS = 137) (hN : P.cN = 40) : POk P where
  sGet := fun k hk => by
    rw [hK, hS]
    match k, hk with
    | 0, _ => exact ⟨by kernel_rfl, by kernel_rfl, by kernel_rfl⟩
    | 1, _ => exact ⟨by kernel_rfl, by kernel_rfl, by kernel_rfl⟩
    | 2, _ => exact ⟨by kernel_rfl, by kernel_rfl, by kernel_rfl⟩
    | 3, _ => exact ⟨by kernel_rfl, by kernel_rfl, by kernel_rfl⟩
  sDict := by rw [hK, hS]; kernel_rfl
  sSet := by rw [hK, hS]; kernel_rfl
  sOver := by rw [hK, hS]; kernel_rfl
  nSet := by rw [hK, hN]; kernel_rfl
  nOver := by rw [hK, hN]; kernel_rfl
  nCls := by rw [hK, hN]; kernel_rfl
  nSlot := fun k hk => by
    rw [hK, hN]
    match k, hk with
    | 0, _ => exact ⟨41, by kernel_rfl, by kernel_rfl, by kernel_rfl, by kernel_rfl, by kernel_rfl, by kernel_rfl, by kernel_rfl⟩
    | 1, _ => exact ⟨42, by kernel_rfl, by kernel_rfl, by kernel_rfl, by kernel_rfl, by kernel_rfl, by kernel_rfl, by kernel_rfl⟩
    | 2, _ => exact ⟨43, by kernel_rfl, by kernel_rfl, by kernel_rfl, by kernel_rfl, by kernel_rfl, by kernel_rfl, by kernel_rfl⟩
noncomputable def freeB (p : Program) (loose : List Str) (x : Str) : Bool := !startupNames.contains x && !loose.contains x && !((recsOf p).map (·.name)).contains x && !((litsOf p).map (·.1)).contains x && !((clssOf p loose).map (·.name)).contains x && x != "__name__"
theorem free_of {P : PC} {x : Str} (h : freeB P.p P.loose x = true) : freeName P x := by
  unfold freeB at h
  simp only [Bool.and_eq_true, Bool.not_eq_true', bne_iff_ne, ne_eq, List.contains_eq_mem, decide_eq_false_iff_not] at h
  obtain ⟨⟨⟨⟨⟨h1, h2⟩, h3⟩, h4⟩, h5⟩, h6⟩ := h
  exact ⟨h1, h2, h3, h4, h5, h6⟩
theorem free12 : freeNames.all (freeB vw (looseW vw [Str.ofString "_NodeInfo"])) = true := by decide +kernel

theorem join12 (D : FD) (pt : SP) (hdp : D.depth ≤ 20) (hn : 1 ≤ D.vars.length)
    (hent : ∀ (P : PC) (hK : P.K = KK P.w.params) (hP : POk P) (hF : ∀ x ∈ freeNames, freeName P x) (hS : P.cS = 137) (hN : P.cN = 40) (hE : P.cE = 55), ∃ fd, fdAt? P.K 167 = some fd ∧ fnOkB P.K fd D = true ∧ SimSs P D (bodyOf fd) pt ∧ ∀ (l : Addr) (s : Shared), BindsTo s fd ⟨[.ref l], []⟩ ((D.vars.map (·.1)).zip [.ref l]))
    (hlaw : ∀ (l : Addr) (ns : List Int), ns.length ≤ 63 → pt (fun fl _ => retV fl = .bool true) noX ⟨fun i => [AV.ref l][i]?, fun b => if b = l then some (.flist (intsA ns)) else none⟩) : PySem.Challenge.rw_dm0130_12.Holds := by
  refine holds_law (by kernel_rfl) fun said => ?_
  refine holds_open (q := vw) (loose := [Str.ofString "_NodeInfo"]) (Xt := fun s => xlAt vw [] s && recOk (RowW.records Challenge.rw_dm0130_12.row.toRowW) s) (XP := XL vw []) (Yf := Hook.obs (kHook KK KA KA_eq)) (Ya := Hook.val (kHook KK KA KA_eq)) (YP := Hook.says (kHook KK KA KA_eq)) (N := 2504) left12 (Hook.of (kHook KK KA KA_eq)) (Hook.keeps (kHook KK KA KA_eq)) (fun s e => xl_of s (Bool.and_eq_true_iff.mp e).1) XL.keeps (by rfl) (by rfl) (by rfl) (fun s e => recFacts_of (Bool.and_eq_true_iff.mp e).2) (by rfl) (by first | assumption | decide +kernel) (by decide +kernel) ⟨rfl, rfl, rfl, rfl, rfl, by decide +kernel⟩ ?hw ?hc
  case hw => w_witness2
  case hc =>
  intro w s₀ s₁ mg mb G Y fa o pm cd doc dV kV ho hd' hcd hD hmg hg args vals as hpre hlay hrd hwl hlo
  have KX := kIn_of Y
  refine Ground.open G ?_
  intro T B D' TE TW
  have hfa : fa = 167 := by
    have h1 : mg "law" = some (.ref 167) := mg_of KX T.g (by kernel_rfl)
    have h2 : mg "law" = some (.ref fa) := hmg
    rw [h1] at h2
    cases h2
    rfl
  clear ho hd' hcd hD hmg
  subst hfa
  wrow_args hpre hlay hrd hwl hlo
  rename_i ns hs1 hs2 hs3 hs4 hs5 as1 as2 l us as3 hL ra w1 r0 hI hr hc hc'
  refine enter_call ?_
  let P : PC := { prog := Challenge.rw_dm0130_12.row.prog, w := w, K := KK w.params, p := vw, loose := looseW vw [Str.ofString "_NodeInfo"], mean := ExcName.means s₀.heap, mg := mg, mb := mb, cS := 137, cN := 40, cE := 55 }
  obtain ⟨fd, e1, e2, e3, e4⟩ := hent P rfl (pok12 rfl rfl rfl) (fun x hx => free_of (List.all_eq_true.mp free12 x hx)) rfl rfl rfl
  refine codeAny_mono (entry_sim (P := P) (Q := fun av => av = .bool true) e1 e2 e3 hn (e4 l s₁) KX T hg hL hI (by (first | lia | omega)) hdp (hlaw l ns (by (first | lia | omega)))) ?_
  rintro r s' ⟨v, av, rfl, hrep, rfl, hk, hgen, hos⟩
  have hv : v = .bool true := hrep
  subst hv
  refine ⟨.inl ⟨_, .bool true, [], rfl, fun cls => rfl, by constructor, by kernel_rfl, fun _ => ⟨List.nodup_nil, fun a ha => by cases ha⟩⟩, .of_keep hk, hos, .of_eq hgen⟩
end
end Mine

theorem PySem.Challenge.cw_dm0130_12_holds : PySem.Challenge.rw_dm0130_12.Holds :=
  Mine.join12 Mine.D_law Mine.pt_law (by decide) (by decide) Mine.ent_law (fun l ns h => Mine.law_spec12 h (if_pos rfl))

