import PyProof.Rows.All
import Wide.All
import OpenK.AllK
import Wide.FinOn
import PySem.Challenge.RW_dm0130_08
open PySem PySem.W PyProof.Rows PySem.Calls
set_option Elab.async false
set_option autoImplicit false
set_option maxRecDepth 100000
set_option maxHeartbeats 8000000
set_option linter.unusedVariables false
namespace Mine
section
inductive AV where
  | none
  | bool (b : Bool)
  | int (i : Int)
  | ref (a : Addr)

noncomputable def AV.rep : AV → Value → Prop
  | .none, v => v = .none
  | .bool b, v => v = .bool b
  | .int i, v => ∃ t, v = .int i t
  | .ref a, v => v = .ref a

noncomputable def Reps : List AV → List Value → Prop
  | [], [] => True
  | a :: l, v :: vs => a.rep v ∧ Reps l vs
  | _, _ => False

noncomputable def OReps : List (Option AV) → List (Option Value) → Prop
  | [], [] => True
  | none :: l, v :: vs => v = none ∧ OReps l vs
  | some a :: l, v :: vs => (∃ u, v = some u ∧ a.rep u) ∧ OReps l vs
  | _, _ => False

inductive AObj where
  | list (l : List AV)
  | flist (l : List AV)
  | tup (l : List AV)
  | dict (es : List (Int × AV)) (ep : Nat)
  | set (S : Int → Bool) (n : Nat)
  | inst (d : Addr)
  | sd (v0 v1 v2 v3 : Option AV)
  | rcd (d : Addr) (vs : List (Option AV))
  | iter (l : Addr) (i : Nat)
  | next (it : Addr)

noncomputable abbrev AH := Addr → Option AObj
noncomputable def upd (h : AH) (a : Addr) (o : AObj) : AH := fun b => if b = a then some o else h b

inductive Ex where
  | stop | cycle | value

structure St where
  loc : Nat → Option AV
  hp : AH

noncomputable def setv (l : Nat → Option AV) (i : Nat) (v : AV) : Nat → Option AV := fun j => if j = i then some v else l j

inductive Fl where
  | next | brk | cont | ret (v : AV)

noncomputable def Fl.rep : Fl → Flow → Prop
  | .next, f => f = .next
  | .brk, f => f = .brk
  | .cont, f => f = .cont
  | .ret v, f => ∃ u, f = .ret u ∧ v.rep u

noncomputable abbrev EP := (AV → St → Prop) → (Ex → St → Prop) → St → Prop
noncomputable abbrev TP := (Bool → St → Prop) → (Ex → St → Prop) → St → Prop
noncomputable abbrev LP := (List AV → St → Prop) → (Ex → St → Prop) → St → Prop
noncomputable abbrev SP := (Fl → St → Prop) → (Ex → St → Prop) → St → Prop

structure PC where
  prog : Program
  w : World
  K : Frag
  p : Program
  loose : List Str
  mean : ExcName → Option Value
  mg : Str → Option Value
  mb : Str → Option Value
  cS : Addr
  cN : Addr
  cE : Addr

noncomputable def dictEs (es : List (Int × AV)) (kvs : List (Int × Value)) : Prop := kvs.map (·.1) = es.map (·.1) ∧ Reps (es.map (·.2)) (kvs.map (·.2))

noncomputable def fieldIs (des : List DictEntry) (x : Str) : Option AV → Prop
  | none => getL x des = some none
  | some v => ∃ u, getL x des = some (some u) ∧ v.rep u

noncomputable def cnt : Option AV → Nat
  | none => 0
  | some _ => 1

noncomputable def AObj.at (P : PC) (h : Heap) (a : Addr) : AObj → Prop
  | .list l => ∃ vs n, h.get? a = some (listOf vs.toArray n) ∧ Reps l vs ∧ l.length ≤ 1000000
  | .flist l => ∃ vs, h.IsList a vs.toArray ∧ Reps l vs ∧ l.length ≤ 1000000
  | .tup l => ∃ vs n, h.get? a = some { cls := .type "tuple", data := .seq vs.toArray n } ∧ Reps l vs ∧ l.length ≤ 1000000
  | .dict es ep => ∃ kvs, h.DictAt (intKind P.prog P.w) a kvs ep ∧ dictEs es kvs ∧ (a == sysModules) = false ∧ es.length ≤ 1000000
  | .set S n => h.SetOf (intKind P.prog P.w) a S n
  | .inst d => h.get? a = some (instObj P.cS d)
  | .sd v0 v1 v2 v3 => ∃ des n, h.get? a = some (dictOf des n) ∧ des.any (·.refKey) = false ∧ des.length ≤ cnt v0 + cnt v1 + cnt v2 + cnt v3 ∧
      fieldIs des "_node2info" v0 ∧ fieldIs des "_ready_nodes" v1 ∧ fieldIs des "_npassedout" v2 ∧ fieldIs des "_nfinished" v3 ∧
      ∀ x : Str, x ≠ "_node2info" → x ≠ "_ready_nodes" → x ≠ "_npassedout" → x ≠ "_nfinished" → getL x des = some none
  | .rcd d vs => ∃ us : List (Option Value), h.get? a = some { instObj P.cN d with slots := us.toArray } ∧ OReps vs us
  | .iter l i => h.IsListIter a l i
  | .next it => h.get? a = some { cls := .type "method-wrapper", data := .fields #[.builtin "list_iterator.__next__", .ref it] }

noncomputable def AObj.frozen : AObj → Bool
  | .flist _ => true
  | _ => false

theorem AObj.at_some {P : PC} {h : Heap} {a : Addr} {o : AObj} (x : o.at P h a) : ∃ ob, h.get? a = some ob := by
  cases o with
  | list l => obtain ⟨_, _, e, _⟩ := x; exact ⟨_, e⟩
  | flist l => obtain ⟨_, ⟨o, e, _⟩, _⟩ := x; exact ⟨o, e⟩
  | tup l => obtain ⟨_, _, e, _⟩ := x; exact ⟨_, e⟩
  | dict es ep => obtain ⟨_, ⟨o, _, e, _⟩, _⟩ := x; exact ⟨o, e⟩
  | set S n => obtain ⟨o, _, _, _, e, _⟩ := x; exact ⟨o, e⟩
  | inst d => exact ⟨_, x⟩
  | sd v0 v1 v2 v3 => obtain ⟨_, _, e, _⟩ := x; exact ⟨_, e⟩
  | rcd d vs => obtain ⟨_, e, _⟩ := x; exact ⟨_, e⟩
  | iter l i => obtain ⟨o, e, _⟩ := x; exact ⟨o, e⟩
  | next it => exact ⟨_, x⟩

theorem AObj.at_of {P : PC} {h h' : Heap} {a : Addr} {o : AObj} (x : o.at P h a) (k : ∀ ob, h.get? a = some ob → h'.get? a = some ob) : o.at P h' a := by
  cases o with
  | list l => obtain ⟨vs, n, e, q⟩ := x; exact ⟨vs, n, k _ e, q⟩
  | flist l => obtain ⟨vs, ⟨o, e, r⟩, q⟩ := x; exact ⟨vs, ⟨o, k _ e, r⟩, q⟩
  | tup l => obtain ⟨vs, n, e, q⟩ := x; exact ⟨vs, n, k _ e, q⟩
  | dict es ep => obtain ⟨vs, ⟨o, a1, e, r⟩, q⟩ := x; exact ⟨vs, ⟨o, a1, k _ e, r⟩, q⟩
  | set S n => obtain ⟨o, a1, a2, a3, e, r⟩ := x; exact ⟨o, a1, a2, a3, k _ e, r⟩
  | inst d => exact k _ x
  | sd v0 v1 v2 v3 => obtain ⟨a1, a2, e, r⟩ := x; exact ⟨a1, a2, k _ e, r⟩
  | rcd d vs => obtain ⟨a1, e, r⟩ := x; exact ⟨a1, k _ e, r⟩
  | iter l i => obtain ⟨o, e, r⟩ := x; exact ⟨o, k _ e, r⟩
  | next it => exact k _ x

structure FX where
  A : Around
  kb : Heap
  fenv : Env
  outer : List Env
  outs : List (Addr × Obj)
  g : Heap
  L : Addr
  env : Env
  os : OsState

inductive VK where
  | loc | cell | cap
deriving DecidableEq

structure FD where
  vars : List (Str × VK)
  globs : List Str
  calm : Bool
  fn : Bool
  depth : Nat

structure FOk (P : PC) (D : FD) (F : FX) : Prop where
  fn : F.env.scope.kind = .function
  locals : F.env.locals = F.L
  globals : F.env.globals = mainGlobals
  builtins : F.env.builtins = builtinsNs
  loc : ∀ x, (x, VK.loc) ∈ D.vars → F.env.kindOf x = some .local
  cell : ∀ x, (x, VK.cell) ∈ D.vars → F.env.kindOf x = some .cell ∧ ∃ c, F.env.cells.lookup x = some c ∧ c ≠ F.L ∧ F.g.get? c = none ∧ c ∉ F.outs.map (·.1)
  cellInj : ∀ x y c, (x, VK.cell) ∈ D.vars → (y, VK.cell) ∈ D.vars → F.env.cells.lookup x = some c → F.env.cells.lookup y = some c → x = y
  cap : ∀ x, (x, VK.cap) ∈ D.vars → (F.env.kindOf x = some .cell ∨ (F.env.kindOf x = some .free ∧ (x == ("__classdict__" : Str)) = false)) ∧ ∃ c, F.env.cells.lookup x = some c
  glob : ∀ x ∈ D.globs, F.env.kindOf x = some .globalImplicit
  nd : (D.vars.map (·.1)).Nodup
  X : P.K.In F.kb
  T : Top P.p P.loose P.mean P.mg P.mb F.kb
  kbg : ∀ b o, F.kb.get? b = some o → F.g.get? b = some o
  frames : F.A.frames = some (F.fenv :: F.outer)
  frs : ∀ e ∈ F.fenv :: F.outer, e.scope.kind ≠ .module ∧ ∃ L, e.frame = some L ∧ (L = F.L ∨ ∃ o, (L, o) ∈ F.outs)
  outsOk : ∀ q ∈ F.outs, F.g.get? q.1 = none ∧ (∀ vs, q.2.data ≠ .fields vs) ∧ q.1 ≠ F.L
  Lg : F.g.get? F.L = none
  above : F.kb.objs.size ≤ F.L
  depth : F.A.depth + 20 * D.depth ≤ 900
  units : F.A.units + 100 * D.depth ≤ 9000
  hh : D.calm = true → F.A.handled = none
  fnOk : D.fn = true → F.fenv = F.env ∧ F.env.frame = some F.L

structure Rel (P : PC) (D : FD) (F : FX) (σ : St) (s : Shared) : Prop where
  ns : ∃ m, s.heap.Ns F.L m ∧ ∀ i x v, D.vars[i]? = some (x, .loc) → σ.loc i = some v → ∃ u, m x = some u ∧ v.rep u
  cell : ∀ i x, D.vars[i]? = some (x, .cell) → ∀ c, F.env.cells.lookup x = some c → σ.hp c = none ∧ ∃ u, s.heap.IsCell c u ∧ ∀ v, σ.loc i = some v → ∃ u', u = some u' ∧ v.rep u'
  cap : ∀ i x v, D.vars[i]? = some (x, .cap) → σ.loc i = some v → ∃ c u, F.env.cells.lookup x = some c ∧ F.g.IsCell c (some u) ∧ v.rep u
  keep : ∀ b o, F.g.get? b = some o → s.heap.get? b = some o
  outs : ∀ q ∈ F.outs, ∃ sl, s.heap.get? q.1 = some { q.2 with slots := sl }
  hp : ∀ a o, σ.hp a = some o → o.at P s.heap a ∧ (o.frozen = true → (F.kb.get? a).isSome = true) ∧ (o.frozen = false → F.g.get? a = none ∧ a ≠ F.L ∧ a ∉ F.outs.map (·.1))
  gens : s.gens = #[]
  os : s.os = F.os

structure Free (D : FD) (F : FX) (a : Addr) : Prop where
  L : a ≠ F.L
  g : F.g.get? a = none
  outs : a ∉ F.outs.map (·.1)
  cells : ∀ x c, (x, VK.cell) ∈ D.vars → F.env.cells.lookup x = some c → c ≠ a

section
variable {P : PC} {D : FD} {F : FX} {σ : St} {s : Shared}

theorem FOk.kbL (O : FOk P D F) : F.kb.get? F.L = none := by
  cases q : F.kb.get? F.L with
  | none => rfl
  | some o => have := O.kbg _ _ q; rw [O.Lg] at this; cases this
theorem FOk.kbO (O : FOk P D F) {q : Addr × Obj} (hq : q ∈ F.outs) : F.kb.get? q.1 = none := by
  cases e : F.kb.get? q.1 with
  | none => rfl
  | some o => have := O.kbg _ _ e; rw [(O.outsOk q hq).1] at this; cases this
theorem Rel.free (R : Rel P D F σ s) {a : Addr} {o : AObj} (h : σ.hp a = some o) (hf : o.frozen = false) : Free D F a := by
  obtain ⟨_, _, h2⟩ := R.hp a o h
  obtain ⟨g, l, u⟩ := h2 hf
  refine ⟨l, g, u, fun x c hx hc e => ?_⟩
  obtain ⟨i, hi⟩ := List.mem_iff_getElem?.mp hx
  have := (R.cell i x hi c hc).1
  rw [e, h] at this; cases this

theorem Rel.fresh (R : Rel P D F σ s) {a : Addr} (h : s.heap.get? a = none) : Free D F a ∧ σ.hp a = none := by
  refine ⟨⟨fun e => ?_, ?_, fun hm => ?_, fun x c hx hc e => ?_⟩, ?_⟩
  · obtain ⟨m, ⟨o, _, _, ho, _⟩, _⟩ := R.ns
    rw [← e, h] at ho; cases ho
  · cases q : F.g.get? a with
    | none => rfl
    | some o => have := R.keep a o q; rw [h] at this; cases this
  · obtain ⟨q, hq, rfl⟩ := List.mem_map.mp hm
    obtain ⟨sl, e⟩ := R.outs q hq
    rw [h] at e; cases e
  · obtain ⟨i, hi⟩ := List.mem_iff_getElem?.mp hx
    obtain ⟨_, u, ⟨o, ho, _⟩, _⟩ := R.cell i x hi c hc
    rw [e, h] at ho; cases ho
  · cases q : σ.hp a with
    | none => rfl
    | some o => obtain ⟨ob, e⟩ := AObj.at_some (R.hp a o q).1; rw [h] at e; cases e

theorem heap_size_none (h : Heap) : h.get? h.objs.size = none := by
  cases q : h.get? h.objs.size with
  | none => rfl
  | some o => exact absurd (Heap.lt_size q) (Nat.lt_irrefl _)

theorem Rel.changeL (R : Rel P D F σ s) (O : FOk P D F) (ch : Addr → Prop) {h' : Heap} {t : Nat} {hp' : AH} (hch : ∀ a, ch a → Free D F a)
    (hns : ∀ m, s.heap.Ns F.L m → h'.Ns F.L m) (hk : ∀ b o, ¬ ch b → b ≠ F.L → s.heap.get? b = some o → h'.get? b = some o)
    (hnew : ∀ a o, hp' a = some o → (σ.hp a = some o ∧ ¬ ch a) ∨ (Free D F a ∧ o.frozen = false ∧ o.at P h' a)) :
    Rel P D F ⟨σ.loc, hp'⟩ { s with heap := h', toks := t } := by
  refine ⟨?_, ?_, R.cap, ?_, ?_, ?_, R.gens, R.os⟩
  · obtain ⟨m, hm, q⟩ := R.ns
    exact ⟨m, hns m hm, q⟩
  · intro i x hi c hc
    obtain ⟨h1, u, ⟨o, ho, hd⟩, q⟩ := R.cell i x hi c hc
    have hm : (x, VK.cell) ∈ D.vars := List.mem_of_getElem? hi
    obtain ⟨_, c', hc', hcL, _⟩ := O.cell x hm
    rw [hc] at hc'; cases hc'
    refine ⟨?_, u, ⟨o, hk _ _ (fun e => (hch _ e).cells x c hm hc rfl) hcL ho, hd⟩, q⟩
    show hp' c = none
    cases e : hp' c with
    | none => rfl
    | some o' =>
      rcases hnew c o' e with ⟨e1, _⟩ | ⟨fr, _⟩
      · rw [h1] at e1; cases e1
      · exact absurd rfl (fr.cells x c hm hc)
  · intro b o e
    exact hk _ _ (fun c => by have := (hch _ c).g; rw [e] at this; cases this) (fun q => by rw [q, O.Lg] at e; cases e) (R.keep b o e)
  · intro q hq
    obtain ⟨sl, e⟩ := R.outs q hq
    exact ⟨sl, hk _ _ (fun c => (hch _ c).outs (List.mem_map_of_mem hq)) (O.outsOk q hq).2.2 e⟩
  · intro a o e
    rcases hnew a o e with ⟨e1, nc⟩ | ⟨fr, h1, h2⟩
    · obtain ⟨x, y, z⟩ := R.hp a o e1
      refine ⟨AObj.at_of x (fun ob eo => hk _ _ nc (fun q => ?_) eo), y, z⟩
      cases hf : o.frozen with
      | false => exact (z hf).2.1 q
      | true => have := y hf; rw [q, O.kbL] at this; cases this
    · exact ⟨h2, ⟨(fun z => by rw [h1] at z; cases z), fun _ => ⟨fr.g, fr.L, fr.outs⟩⟩⟩

theorem Rel.change (R : Rel P D F σ s) (ch : Addr → Prop) {h' : Heap} {t : Nat} {hp' : AH} (hch : ∀ a, ch a → Free D F a)
    (hk : ∀ b o, ¬ ch b → s.heap.get? b = some o → h'.get? b = some o)
    (hnew : ∀ a o, hp' a = some o → (σ.hp a = some o ∧ ¬ ch a) ∨ (Free D F a ∧ o.frozen = false ∧ o.at P h' a)) :
    Rel P D F ⟨σ.loc, hp'⟩ { s with heap := h', toks := t } := by
  refine ⟨?_, ?_, R.cap, ?_, ?_, ?_, R.gens, R.os⟩
  · obtain ⟨m, ⟨o, es, ep, ho, r⟩, q⟩ := R.ns
    exact ⟨m, ⟨o, es, ep, hk _ _ (fun c => (hch _ c).L rfl) ho, r⟩, q⟩
  · intro i x hi c hc
    obtain ⟨h1, u, ⟨o, ho, hd⟩, q⟩ := R.cell i x hi c hc
    have hm : (x, VK.cell) ∈ D.vars := List.mem_of_getElem? hi
    refine ⟨?_, u, ⟨o, hk _ _ (fun e => (hch _ e).cells x c hm hc rfl) ho, hd⟩, q⟩
    show hp' c = none
    cases e : hp' c with
    | none => rfl
    | some o' =>
      rcases hnew c o' e with ⟨e1, _⟩ | ⟨fr, _⟩
      · rw [h1] at e1; cases e1
      · exact absurd rfl (fr.cells x c hm hc)
  · intro b o e
    exact hk _ _ (fun c => by have := (hch _ c).g; rw [e] at this; cases this) (R.keep b o e)
  · intro q hq
    obtain ⟨sl, e⟩ := R.outs q hq
    exact ⟨sl, hk _ _ (fun c => (hch _ c).outs (List.mem_map_of_mem hq)) e⟩
  · intro a o e
    rcases hnew a o e with ⟨e1, nc⟩ | ⟨fr, h1, h2⟩
    · obtain ⟨x, y⟩ := R.hp a o e1
      exact ⟨AObj.at_of x (fun ob eo => hk _ _ nc eo), y⟩
    · exact ⟨h2, ⟨(fun z => by rw [h1] at z; cases z), fun _ => ⟨fr.g, fr.L, fr.outs⟩⟩⟩

noncomputable def allBut (L : Addr) (h : Heap) : List (Addr × Obj) := (List.range h.objs.size).filterMap fun a => if a = L then none else (h.get? a).map (a, ·)
noncomputable def noHeap : Heap := { objs := #[], life := {} }
theorem noHeap_get (a : Addr) : noHeap.get? a = none := by unfold noHeap Heap.get?; simp
theorem news_all (L : Addr) (h : Heap) : News noHeap L h (allBut L h) := fun p hp => by
  obtain ⟨a, ha, e⟩ := List.mem_filterMap.mp hp
  split at e
  · cases e
  · rename_i ne
    obtain ⟨o, ho, e2⟩ := Option.map_eq_some_iff.mp e
    subst e2
    exact ⟨ho, ne, noHeap_get _⟩
theorem mem_all {L : Addr} {h : Heap} {b : Addr} {o : Obj} (ne : b ≠ L) (e : h.get? b = some o) : (b, o) ∈ allBut L h :=
  List.mem_filterMap.mpr ⟨b, List.mem_range.mpr (Heap.lt_size e), by rw [if_neg ne, e]; rfl⟩
theorem Rel.fr (R : Rel P D F σ s) : ∃ m, Fr noHeap F.L s.heap m ∧ s.heap.Ns F.L m := by
  obtain ⟨m, hm, _⟩ := R.ns
  exact ⟨m, ⟨hm, (fun b o e => by rw [noHeap_get] at e; cases e), Nat.zero_le _⟩, hm⟩
theorem Rel.frG (R : Rel P D F σ s) (O : FOk P D F) : ∃ m, Fr F.kb F.L s.heap m := by
  obtain ⟨m, hm, _⟩ := R.ns
  exact ⟨m, hm, fun b o e => R.keep b o (O.kbg b o e), O.above⟩
theorem ns_unique {h : Heap} {L : Addr} {m m' : Str → Option Value} (a : h.Ns L m) (b : h.Ns L m') : m = m' := by
  obtain ⟨o, es, ep, h1, h2, _, h3⟩ := a
  obtain ⟨o', es', ep', h1', h2', _, h3'⟩ := b
  rw [h1] at h1'; cases h1'
  rw [h2] at h2'; cases h2'
  funext x
  exact (h3 x).symm.trans (h3' x)

theorem Rel.pushed (R : Rel P D F σ s) (O : FOk P D F) {m : Str → Option Value} {h' : Heap} {ob : Obj} {o : AObj} {t : Nat} (hm : s.heap.Ns F.L m) (F' : Fr noHeap F.L h' m) (N' : News noHeap F.L h' ((s.heap.objs.size, ob) :: allBut F.L s.heap)) (hf : o.frozen = false)
    (ho : h'.get? s.heap.objs.size = some ob → o.at P h' s.heap.objs.size) : Rel P D F ⟨σ.loc, upd σ.hp s.heap.objs.size o⟩ { s with heap := h', toks := t } := by
  refine R.changeL O (fun _ => False) (fun _ x => x.elim) (fun m' hm' => ns_unique hm' hm ▸ F'.ns) (fun b o' _ ne e => (N' _ (List.mem_cons_of_mem _ (mem_all ne e))).1) fun a o' e => ?_
  unfold upd at e
  split at e
  · rename_i h; subst h; cases e
    exact .inr ⟨(R.fresh (heap_size_none _)).1, hf, ho (N' _ (List.mem_cons_self ..)).1⟩
  · exact .inl ⟨e, id⟩

theorem Rel.ext (R : Rel P D F σ s) {h' : Heap} {t : Nat} (hk : ∀ b o, s.heap.get? b = some o → h'.get? b = some o) : Rel P D F σ { s with heap := h', toks := t } :=
  R.change (fun _ => False) (fun _ x => x.elim) (fun b o _ e => hk b o e) fun _ _ e => .inl ⟨e, id⟩

theorem Rel.toks (R : Rel P D F σ s) {t : Nat} : Rel P D F σ { s with toks := t } := R.ext fun _ _ e => e

theorem Rel.push (R : Rel P D F σ s) (ob : Obj) (o : AObj) (hf : o.frozen = false) (ho : o.at P (s.heap.push ob) s.heap.objs.size) :
    Rel P D F ⟨σ.loc, upd σ.hp s.heap.objs.size o⟩ { s with heap := s.heap.push ob } :=
  R.change (t := s.toks) (fun _ => False) (fun _ x => x.elim) (fun _ _ _ e => Heap.get?_push_of_some _ e) fun a o' e => by
    unfold upd at e
    split at e
    · rename_i h; subst h; cases e
      exact .inr ⟨(R.fresh (heap_size_none _)).1, hf, ho⟩
    · exact .inl ⟨e, id⟩

theorem Rel.set (R : Rel P D F σ s) {a : Addr} {o o' : AObj} {h' : Heap} {t : Nat} (h : σ.hp a = some o) (hf : o.frozen = false) (hs : Heap.SameBut a s.heap h') (hf' : o'.frozen = false) (ho : o'.at P h' a) :
    Rel P D F ⟨σ.loc, upd σ.hp a o'⟩ { s with heap := h', toks := t } :=
  R.change (fun b => b = a) (fun b e => e ▸ R.free h hf) (fun b ob ne e => (hs.2 b ne).trans e) fun b o₂ e => by
    unfold upd at e
    split at e
    · rename_i q; subst q; cases e; exact .inr ⟨R.free h hf, hf', ho⟩
    · rename_i q; exact .inl ⟨e, q⟩

theorem Rel.setLoc (R : Rel P D F σ s) {i : Nat} {x : Str} {v : AV} {u : Value} {m : Str → Option Value} {h' : Heap} {t : Nat} (O : FOk P D F) (hi : D.vars[i]? = some (x, .loc)) (hv : v.rep u)
    (hml : ∀ i x v, D.vars[i]? = some (x, .loc) → σ.loc i = some v → ∃ u, m x = some u ∧ v.rep u)
    (hn : h'.Ns F.L (fun y => if y = x then some u else m y)) (hs : Heap.SameBut F.L s.heap h') :
    Rel P D F ⟨setv σ.loc i v, σ.hp⟩ { s with heap := h', toks := t } := by
  have key : ∀ j y k, D.vars[j]? = some (y, k) → j ≠ i → y ≠ x := by
    intro j y k hj ne e
    subst e
    have hnd := O.nd
    have h1 : (D.vars.map (·.1))[j]? = some y := by simp [hj]
    have h2 : (D.vars.map (·.1))[i]? = some y := by simp [hi]
    obtain ⟨lj, _⟩ := List.getElem?_eq_some_iff.mp h1
    obtain ⟨li, _⟩ := List.getElem?_eq_some_iff.mp h2
    exact ne ((List.getElem?_inj lj hnd).mp (h1.trans h2.symm))
  refine ⟨⟨_, hn, fun j y w hj hw => ?_⟩, fun j y hj c hc => ?_, fun j y w hj hw => ?_, fun b o e => ?_, fun q hq => ?_, fun a o e => ?_, R.gens, R.os⟩
  · by_cases e : j = i
    · subst e
      rw [hi] at hj; cases hj
      simp only [setv, if_true] at hw
      cases hw
      exact ⟨u, by simp, hv⟩
    · have ney := key j y _ hj e
      simp only [setv, if_neg e] at hw
      obtain ⟨u', h1, h2⟩ := hml j y w hj hw
      exact ⟨u', by simp [ney, h1], h2⟩
  · obtain ⟨h1, u', ⟨o, ho, hd⟩, q⟩ := R.cell j y hj c hc
    have ne : j ≠ i := fun e => by subst e; rw [hi] at hj; cases hj
    obtain ⟨_, c', hc', hne, _⟩ := O.cell y (List.mem_of_getElem? hj)
    rw [hc] at hc'; cases hc'
    exact ⟨h1, u', ⟨o, (hs.2 _ hne).trans ho, hd⟩, by simpa only [setv, if_neg ne] using q⟩
  · have ne : j ≠ i := fun e => by subst e; rw [hi] at hj; cases hj
    simp only [setv, if_neg ne] at hw
    exact R.cap j y w hj hw
  · exact (hs.2 b (fun q => by rw [q, O.Lg] at e; cases e)).trans (R.keep b o e)
  · obtain ⟨sl, e⟩ := R.outs q hq
    exact ⟨sl, (hs.2 _ (O.outsOk q hq).2.2).trans e⟩
  · obtain ⟨x1, x2, x3⟩ := R.hp a o e
    refine ⟨AObj.at_of x1 (fun ob eo => (hs.2 _ (fun q => ?_)).trans eo), x2, x3⟩
    cases hf : o.frozen with
    | false => exact (x3 hf).2.1 q
    | true => have := x2 hf; rw [q, O.kbL] at this; cases this

theorem Rel.setCell (R : Rel P D F σ s) {i : Nat} {x : Str} {v : AV} {u : Value} {c : Addr} {h' : Heap} (O : FOk P D F) (hi : D.vars[i]? = some (x, .cell)) (hv : v.rep u)
    (hc : F.env.cells.lookup x = some c) (hn : h'.IsCell c (some u)) (hs : Heap.SameBut c s.heap h') :
    Rel P D F ⟨setv σ.loc i v, σ.hp⟩ { s with heap := h' } := by
  obtain ⟨_, c', hc', hcL, hcg, hco⟩ := O.cell x (List.mem_of_getElem? hi)
  rw [hc] at hc'; cases hc'
  have hcp := (R.cell i x hi c hc).1
  refine ⟨?_, fun j y hj c' hc' => ?_, fun j y w hj hw => ?_, fun b o e => ?_, fun q hq => ?_, fun a o e => ?_, R.gens, R.os⟩
  · obtain ⟨m, ⟨o, es, ep, ho, r⟩, q⟩ := R.ns
    refine ⟨m, ⟨o, es, ep, (hs.2 _ (Ne.symm hcL)).trans ho, r⟩, fun j y w hj hw => ?_⟩
    have ne : j ≠ i := fun e => by subst e; rw [hi] at hj; cases hj
    simp only [setv, if_neg ne] at hw
    exact q j y w hj hw
  · obtain ⟨h1, u', ⟨o, ho, hd⟩, q⟩ := R.cell j y hj c' hc'
    by_cases e : j = i
    · subst e
      rw [hi] at hj; cases hj
      rw [hc] at hc'; cases hc'
      exact ⟨h1, some u, hn, fun w hw => by simp only [setv, if_true] at hw; cases hw; exact ⟨u, rfl, hv⟩⟩
    · have nc : c' ≠ c := fun ec => by
        subst ec
        have exy := O.cellInj x y c' (List.mem_of_getElem? hi) (List.mem_of_getElem? hj) hc hc'
        subst exy
        have h1 : (D.vars.map (·.1))[j]? = some x := by simp [hj]
        have h2 : (D.vars.map (·.1))[i]? = some x := by simp [hi]
        obtain ⟨lj, _⟩ := List.getElem?_eq_some_iff.mp h1
        exact e ((List.getElem?_inj lj O.nd).mp (h1.trans h2.symm))
      exact ⟨h1, u', ⟨o, (hs.2 _ nc).trans ho, hd⟩, by simpa only [setv, if_neg e] using q⟩
  · have ne : j ≠ i := fun e => by subst e; rw [hi] at hj; cases hj
    simp only [setv, if_neg ne] at hw
    exact R.cap j y w hj hw
  · exact (hs.2 b (fun q => by rw [q, hcg] at e; cases e)).trans (R.keep b o e)
  · obtain ⟨sl, e⟩ := R.outs q hq
    exact ⟨sl, (hs.2 _ (fun q' => hco (q' ▸ List.mem_map_of_mem hq))).trans e⟩
  · obtain ⟨x1, x2, x3⟩ := R.hp a o e
    exact ⟨AObj.at_of x1 (fun ob eo => (hs.2 _ (fun q => by rw [q, hcp] at e; cases e)).trans eo), x2, x3⟩


theorem Reps.nil_inv {us : List Value} (h : Reps [] us) : us = [] := by
  cases us with
  | nil => rfl
  | cons u us => exact h.elim
theorem Reps.cons_inv {a : AV} {l : List AV} {us : List Value} (h : Reps (a :: l) us) : ∃ u vs, us = u :: vs ∧ a.rep u ∧ Reps l vs := by
  cases us with
  | nil => exact h.elim
  | cons u us => exact ⟨u, us, rfl, h.1, h.2⟩
theorem Reps.one {a : AV} {us : List Value} (h : Reps [a] us) : ∃ u, us = [u] ∧ a.rep u := by
  obtain ⟨u, vs, rfl, h1, h2⟩ := h.cons_inv
  cases h2.nil_inv
  exact ⟨u, rfl, h1⟩
theorem Reps.two {a b : AV} {us : List Value} (h : Reps [a, b] us) : ∃ u v, us = [u, v] ∧ a.rep u ∧ b.rep v := by
  obtain ⟨u, vs, rfl, h1, h2⟩ := h.cons_inv
  obtain ⟨v, rfl, h3⟩ := h2.one
  exact ⟨u, v, rfl, h1, h3⟩
theorem Reps.length : ∀ {l : List AV} {vs : List Value}, Reps l vs → l.length = vs.length
  | [], [], _ => rfl
  | _ :: _, _ :: _, ⟨_, h⟩ => congrArg (· + 1) (Reps.length h)
  | [], _ :: _, h => h.elim
  | _ :: _, [], h => h.elim
theorem Reps.append : ∀ {l l' : List AV} {vs vs' : List Value}, Reps l vs → Reps l' vs' → Reps (l ++ l') (vs ++ vs')
  | [], _, [], _, _, h' => h'
  | _ :: _, _, _ :: _, _, ⟨h, r⟩, h' => ⟨h, Reps.append r h'⟩
  | [], _, _ :: _, _, h, _ => h.elim
  | _ :: _, _, [], _, h, _ => h.elim
theorem Reps.get : ∀ {l : List AV} {vs : List Value} (i : Nat) {a : AV}, Reps l vs → l[i]? = some a → ∃ v, vs[i]? = some v ∧ a.rep v
  | [], [], _, _, _, h => by simp at h
  | a :: l, v :: vs, 0, b, ⟨h, _⟩, e => by simp at e; subst e; exact ⟨v, rfl, h⟩
  | a :: l, v :: vs, i + 1, b, ⟨_, r⟩, e => by simpa using Reps.get i r (by simpa using e)
  | [], _ :: _, _, _, h, _ => h.elim
  | _ :: _, [], _, _, h, _ => h.elim
theorem Reps.get' : ∀ {l : List AV} {vs : List Value} (i : Nat) {v : Value}, Reps l vs → vs[i]? = some v → ∃ a, l[i]? = some a ∧ a.rep v
  | [], [], _, _, _, h => by simp at h
  | a :: l, v :: vs, 0, b, ⟨h, _⟩, e => by simp at e; subst e; exact ⟨a, rfl, h⟩
  | a :: l, v :: vs, i + 1, b, ⟨_, r⟩, e => by simpa using Reps.get' i r (by simpa using e)
  | [], _ :: _, _, _, h, _ => h.elim
  | _ :: _, [], _, _, h, _ => h.elim
theorem Reps.take : ∀ {l : List AV} {vs : List Value} (n : Nat), Reps l vs → Reps (l.take n) (vs.take n)
  | _, _, 0, _ => trivial
  | [], [], _ + 1, _ => trivial
  | _ :: _, _ :: _, n + 1, ⟨h, r⟩ => ⟨h, Reps.take n r⟩
  | [], _ :: _, _, h => h.elim
  | _ :: _, [], _, h => h.elim
theorem Reps.drop : ∀ {l : List AV} {vs : List Value} (n : Nat), Reps l vs → Reps (l.drop n) (vs.drop n)
  | _, _, 0, h => h
  | [], [], _ + 1, _ => trivial
  | _ :: _, _ :: _, n + 1, ⟨_, r⟩ => Reps.drop n r
  | [], _ :: _, _, h => h.elim
  | _ :: _, [], _, h => h.elim
theorem Reps.set : ∀ {l : List AV} {vs : List Value} (n : Nat) {a : AV} {v : Value}, Reps l vs → a.rep v → Reps (l.set n a) (vs.set n v)
  | [], [], _, _, _, _, _ => trivial
  | _ :: _, _ :: _, 0, _, _, ⟨_, r⟩, q => ⟨q, r⟩
  | _ :: _, _ :: _, n + 1, _, _, ⟨h, r⟩, q => ⟨h, Reps.set n r q⟩
  | [], _ :: _, _, _, _, h, _ => h.elim
  | _ :: _, [], _, _, _, h, _ => h.elim
theorem Reps.eraseIdx : ∀ {l : List AV} {vs : List Value} (n : Nat), Reps l vs → Reps (l.eraseIdx n) (vs.eraseIdx n)
  | [], [], _, _ => trivial
  | _ :: _, _ :: _, 0, ⟨_, r⟩ => r
  | _ :: _, _ :: _, n + 1, ⟨h, r⟩ => ⟨h, Reps.eraseIdx n r⟩
  | [], _ :: _, _, h => h.elim
  | _ :: _, [], _, h => h.elim

noncomputable def St.lst (σ : St) (a : Addr) : Option (List AV) := match σ.hp a with
  | some (.list l) => some l
  | some (.flist l) => some l
  | _ => none

theorem Rel.isList (R : Rel P D F σ s) {a : Addr} {l : List AV} (h : σ.lst a = some l) : ∃ vs, s.heap.IsList a vs.toArray ∧ Reps l vs ∧ l.length ≤ 1000000 := by
  unfold St.lst at h
  split at h
  · rename_i l' e
    cases h
    obtain ⟨vs, n, e', r⟩ := (R.hp a _ e).1
    exact ⟨vs, ⟨_, e', rfl, n, rfl⟩, r⟩
  · rename_i l' e
    cases h
    obtain ⟨vs, e', r⟩ := (R.hp a _ e).1
    exact ⟨vs, e', r⟩
  · cases h

theorem Rel.plain (R : Rel P D F σ s) {a : Addr} {l : List AV} (h : σ.hp a = some (.list l)) : ∃ vs n, s.heap.get? a = some (listOf vs.toArray n) ∧ Reps l vs ∧ l.length ≤ 1000000 := (R.hp a _ h).1
theorem Rel.tup (R : Rel P D F σ s) {a : Addr} {l : List AV} (h : σ.hp a = some (.tup l)) : ∃ vs n, s.heap.get? a = some { cls := .type "tuple", data := .seq vs.toArray n } ∧ Reps l vs ∧ l.length ≤ 1000000 := (R.hp a _ h).1

theorem Rel.setList (R : Rel P D F σ s) {a : Addr} {l l' : List AV} {vs vs' : List Value} {n t : Nat} {f : Array Value → Array Value} (h : σ.hp a = some (.list l)) (hg : s.heap.get? a = some (listOf vs.toArray n))
    (hf : f vs.toArray = vs'.toArray) (hr : Reps l' vs') (hz : l'.length ≤ 1000000) : Rel P D F ⟨σ.loc, upd σ.hp a (.list l')⟩ { s with heap := s.heap.update a (Obj.mapSeq f), toks := t } := by
  refine R.set h rfl (Heap.SameBut.update ..) rfl ?_
  refine ⟨vs', if ((f vs.toArray).size == vs.toArray.size) = true then n else n + 1, (Heap.get?_update_self (Obj.mapSeq f) hg rfl).trans ?_, hr, hz⟩
  simp only [Obj.mapSeq, W.listOf, hf]
end
end
section
noncomputable def exCls (P : PC) : Ex → Value
  | .stop => .type "StopIteration"
  | .cycle => .ref P.cE
  | .value => .type "ValueError"

noncomputable def Unt (D : FD) (F : FX) (σ : St) (a : Addr) : Prop := Free D F a ∧ σ.hp a = none

noncomputable def Traced (D : FD) (F : FX) (σ : St) (h : Heap) (a : Addr) (vs : Array Value) : Prop :=
  vs[1]? = some .none ∨ ∃ T oT ts, vs[1]? = some (.ref T) ∧ T ≠ a ∧ Unt D F σ T ∧ h.get? T = some oT ∧ oT.data = .fields ts ∧ (ts[3]? = some .none ∨ ts[3]? = some (rawInt F.L))

structure XAt (P : PC) (D : FD) (F : FX) (ex : Ex) (σ : St) (e : Value) (s : Shared) : Prop where
  rel : Rel P D F σ s
  at_ : ∃ a oe vs a0, e = .ref a ∧ Unt D F σ a ∧ s.heap.get? a = some oe ∧ oe.cls = exCls P ex ∧ oe.data = .fields vs ∧ vs[0]? = some a0 ∧ Traced D F σ s.heap a vs

noncomputable def RE (P : PC) (D : FD) (F : FX) (Q : AV → St → Prop) (v : Value) (s : Shared) : Prop := ∃ av σ, av.rep v ∧ Rel P D F σ s ∧ Q av σ
noncomputable def RB (P : PC) (D : FD) (F : FX) (Q : Bool → St → Prop) (b : Bool) (s : Shared) : Prop := ∃ σ, Rel P D F σ s ∧ Q b σ
noncomputable def RL (P : PC) (D : FD) (F : FX) (Q : List AV → St → Prop) (vs : List Value) (s : Shared) : Prop := ∃ avs σ, Reps avs vs ∧ Rel P D F σ s ∧ Q avs σ
noncomputable def RF (P : PC) (D : FD) (F : FX) (Q : Fl → St → Prop) (f : Flow) (s : Shared) : Prop := ∃ fl σ, fl.rep f ∧ Rel P D F σ s ∧ Q fl σ
noncomputable def RX (P : PC) (D : FD) (F : FX) (E : Ex → St → Prop) (e : Value) (s : Shared) : Prop := ∃ ex σ, XAt P D F ex σ e s ∧ E ex σ

noncomputable def SimE (P : PC) (D : FD) (e : Expr) (p : EP) : Prop := ∀ F, FOk P D F → ∀ σ s Q E, Rel P D F σ s → p Q E σ → wpAny (model P.prog P.w) F.A (eval e F.env) (RE P D F Q) (RX P D F E) s
noncomputable def SimT (P : PC) (D : FD) (e : Expr) (p : TP) : Prop := ∀ F, FOk P D F → ∀ σ s Q E, Rel P D F σ s → p Q E σ → wpAny (model P.prog P.w) F.A (isTrue e F.env (eval e F.env)) (RB P D F Q) (RX P D F E) s
noncomputable def SimL (P : PC) (D : FD) (es : List Expr) (p : LP) : Prop := ∀ F, FOk P D F → ∀ pos σ s Q E, Rel P D F σ s → p Q E σ → wpAny (model P.prog P.w) F.A (spliced (backTo pos (starEach es F.env))) (RL P D F Q) (RX P D F E) s
noncomputable def SimS (P : PC) (D : FD) (st : Stmt) (p : SP) : Prop := ∀ F, FOk P D F → ∀ σ s Q E, Rel P D F σ s → p Q E σ → wpAny (model P.prog P.w) F.A (exec st F.env) (RF P D F Q) (RX P D F E) s
noncomputable def SimSs (P : PC) (D : FD) (st : List Stmt) (p : SP) : Prop := ∀ F, FOk P D F → ∀ σ s Q E, Rel P D F σ s → p Q E σ → wpAny (model P.prog P.w) F.A (execs st F.env) (RF P D F Q) (RX P D F E) s

noncomputable def OpSim (P : PC) (D : FD) (F : FX) (t : Sem Value) (p : EP) : Prop := ∀ σ s Q E, Rel P D F σ s → p Q E σ → wpAny (model P.prog P.w) F.A t (RE P D F Q) (RX P D F E) s

-- the transformers
noncomputable def pName (i : Nat) : EP := fun Q _ σ => ∃ v, σ.loc i = some v ∧ Q v σ
noncomputable def pInt (n : Int) : EP := fun Q _ σ => Q (.int n) σ
noncomputable def pBool (b : Bool) : EP := fun Q _ σ => Q (.bool b) σ
noncomputable def pNone : EP := fun Q _ σ => Q .none σ
noncomputable def pBin (op : AV → AV → EP) (l r : EP) : EP := fun Q E σ => l (fun a σ₁ => r (fun b σ₂ => op a b Q E σ₂) E σ₁) E σ
noncomputable def pUn (op : AV → EP) (l : EP) : EP := fun Q E σ => l (fun a σ₁ => op a Q E σ₁) E σ

section
variable {P : PC} {D : FD}


theorem sim_cint {n : Int} {k pos} : SimE P D (.Constant (.int n) k pos) (pInt n) :=
  fun _ _ σ _ _ _ R h => wpAny_Constant_int ⟨.int n, σ, ⟨_, rfl⟩, R.toks, h⟩
theorem sim_cbool {b : Bool} {k pos} : SimE P D (.Constant (.bool b) k pos) (pBool b) :=
  fun _ _ σ _ _ _ R h => wpAny_Constant_bool ⟨.bool b, σ, rfl, R, h⟩
theorem sim_cnone {k pos} : SimE P D (.Constant .none k pos) pNone :=
  fun _ _ σ _ _ _ R h => wpAny_Constant_none ⟨.none, σ, rfl, R, h⟩

theorem sim_name {x : Str} {pos : Pos} {i : Nat} {k : VK} (hi : D.vars[i]? = some (x, k)) (hd : (x == ("__debug__" : Str)) = false := by decide) : SimE P D (.Name x pos) (pName i) := by
  rintro F O σ s Q E R ⟨v, hv, h⟩
  have hm := List.mem_of_getElem? hi
  refine wpAny_Name ?_ hd
  cases k with
  | loc =>
    obtain ⟨m, hn, hl⟩ := R.ns
    obtain ⟨u, hu, hr⟩ := hl i x v hi hv
    exact wpAny_loadName_local O.fn (O.loc x hm) (by rw [O.locals]; exact hn) hu ⟨v, σ, hr, R, h⟩
  | cell =>
    obtain ⟨hk, c, hc, _⟩ := O.cell x hm
    obtain ⟨_, u, hu, hq⟩ := R.cell i x hi c hc
    obtain ⟨u', rfl, hr⟩ := hq v hv
    exact wpAny_loadName_cell O.fn hk hc hu ⟨v, σ, hr, R, h⟩
  | cap =>
    obtain ⟨c, u, hc, ⟨o, ho, hd⟩, hr⟩ := R.cap i x v hi hv
    have hcell : s.heap.IsCell c (some u) := ⟨o, R.keep c o ho, hd⟩
    rcases (O.cap x hm).1 with hk | ⟨hk, hcd⟩
    · exact wpAny_loadName_cell O.fn hk hc hcell ⟨v, σ, hr, R, h⟩
    · exact wpAny_loadName_free O.fn hk hc hcell ⟨v, σ, hr, R, h⟩ hcd

theorem sim_bin {l r : Expr} {op : Operator} {pos : Pos} {pl pr : EP} {f : AV → AV → EP} (hl : SimE P D l pl) (hr : SimE P D r pr)
    (ho : ∀ F, FOk P D F → ∀ a b u v, a.rep u → b.rep v → OpSim P D F (binaryOp op u v) (f a b)) : SimE P D (.BinOp l op r pos) (pBin f pl pr) := by
  intro F O σ s Q E R h
  refine wpAny_BinOp (wpAny_mono (hl F O σ s _ E R h) ?_ fun _ _ x => x)
  rintro u s₁ ⟨a, σ₁, ha, R₁, h₁⟩
  refine wpAny_mono (hr F O σ₁ s₁ _ E R₁ h₁) ?_ fun _ _ x => x
  rintro v s₂ ⟨b, σ₂, hb, R₂, h₂⟩
  exact ho F O a b u v ha hb σ₂ s₂ Q E R₂ h₂

theorem sim_un {l : Expr} {op : UnaryOp} {pos : Pos} {pl : EP} {f : AV → EP} (hl : SimE P D l pl)
    (ho : ∀ F, FOk P D F → ∀ a u, a.rep u → OpSim P D F (unaryOp op u) (f a)) : SimE P D (.UnaryOp op l pos) (pUn f pl) := by
  intro F O σ s Q E R h
  refine wpAny_UnaryOp (wpAny_mono (hl F O σ s _ E R h) ?_ fun _ _ x => x)
  rintro u s₁ ⟨a, σ₁, ha, R₁, h₁⟩
  exact ho F O a u ha σ₁ s₁ Q E R₁ h₁

theorem RE.int {F : FX} {Q : AV → St → Prop} {i j : Int} {t : Tok} {s : Shared} {σ : St} (h2 : Rel P D F σ s) (h3 : Q (.int j) σ) (e : i = j := by rfl) : RE P D F Q (.int i t) s := ⟨.int j, σ, ⟨t, by rw [e]⟩, h2, h3⟩
theorem RE.ref {F : FX} {Q : AV → St → Prop} {a : Addr} {s : Shared} {σ : St} (h2 : Rel P D F σ s) (h3 : Q (.ref a) σ) : RE P D F Q (.ref a) s := ⟨.ref a, σ, rfl, h2, h3⟩
theorem RE.bool {F : FX} {Q : AV → St → Prop} {b c : Bool} {s : Shared} {σ : St} (h2 : Rel P D F σ s) (h3 : Q (.bool c) σ) (e : b = c := by rfl) : RE P D F Q (.bool b) s := ⟨.bool c, σ, by rw [e]; rfl, h2, h3⟩
theorem RE.none {F : FX} {Q : AV → St → Prop} {s : Shared} {σ : St} (h2 : Rel P D F σ s) (h3 : Q .none σ) : RE P D F Q .none s := ⟨.none, σ, rfl, h2, h3⟩

-- operations upon ints
noncomputable def opAdd : AV → AV → EP
  | .int x, .int y => fun Q _ σ => Q (.int (x + y)) σ
  | .ref l, .ref r => fun Q _ σ => ∃ xs ys, σ.lst l = some xs ∧ σ.lst r = some ys ∧ xs.length + ys.length ≤ 1000000 ∧ ∀ a, σ.hp a = none → Q (.ref a) ⟨σ.loc, upd σ.hp a (.list (xs ++ ys))⟩
  | _, _ => fun _ _ _ => False
noncomputable def opSub : AV → AV → EP
  | .int x, .int y => fun Q _ σ => Q (.int (x - y)) σ
  | _, _ => fun _ _ _ => False
noncomputable def opMul : AV → AV → EP
  | .int x, .int y => fun Q _ σ => (x.natAbs < 2 ^ 60 ∨ y.natAbs < 2 ^ 60) ∧ Q (.int (x * y)) σ
  | .ref l, .int n => fun Q _ σ => ∃ xs, σ.hp l = some (.list xs) ∧ xs.length * n.toNat ≤ 1000000 ∧ -1000000 ≤ n ∧ n ≤ 1000000 ∧ ∀ a, σ.hp a = none → Q (.ref a) ⟨σ.loc, upd σ.hp a (.list (List.replicate n.toNat xs).flatten)⟩
  | _, _ => fun _ _ _ => False
noncomputable def opDiv : AV → AV → EP
  | .int x, .int y => fun Q _ σ => 0 < y ∧ y < 1073741824 ∧ Q (.int (x / y)) σ
  | _, _ => fun _ _ _ => False
noncomputable def opMod : AV → AV → EP
  | .int x, .int y => fun Q _ σ => 0 < y ∧ Q (.int (x % y)) σ
  | _, _ => fun _ _ _ => False
noncomputable def opPow : AV → AV → EP
  | .int x, .int y => fun Q _ σ => 0 ≤ y ∧ y ≤ 1000 ∧ x.natAbs < 2 ^ 60 ∧ Q (.int (x ^ y.toNat)) σ
  | _, _ => fun _ _ _ => False
noncomputable def opShr : AV → AV → EP
  | .int x, .int y => fun Q _ σ => 0 ≤ y ∧ Q (.int (x / 2 ^ y.toNat)) σ
  | _, _ => fun _ _ _ => False
noncomputable def opAnd : AV → AV → EP
  | .int x, .int y => fun Q _ σ => Q (.int (Builtin.bitAnd x y)) σ
  | _, _ => fun _ _ _ => False
noncomputable def opOr : AV → AV → EP
  | .int x, .int y => fun Q _ σ => Q (.int (Builtin.bitOr x y)) σ
  | _, _ => fun _ _ _ => False
noncomputable def opNeg : AV → EP
  | .int x => fun Q _ σ => Q (.int (-x)) σ
  | _ => fun _ _ _ => False

theorem bits_of_lt {x : Int} (h : x.natAbs < 2 ^ 60) : Builtin.Int.intBits x ≤ 64 := by
  unfold Builtin.Int.intBits
  split
  · (first | lia | omega)
  · rename_i hx
    have h0 : x.natAbs ≠ 0 := by simpa using hx
    have := (Nat.log2_lt h0).mpr h
    (first | lia | omega)

theorem op_sub {F : FX} {a b : AV} {u v : Value} (ha : a.rep u) (hb : b.rep v) : OpSim P D F (binaryOp .Sub u v) (opSub a b) := by
  intro σ s Q E R h
  cases a <;> cases b <;> try exact h.elim
  obtain ⟨t, rfl⟩ := ha
  obtain ⟨t', rfl⟩ := hb
  exact sub_int (.int R.toks h)
theorem op_div {F : FX} {a b : AV} {u v : Value} (ha : a.rep u) (hb : b.rep v) : OpSim P D F (binaryOp .FloorDiv u v) (opDiv a b) := by
  intro σ s Q E R h
  cases a <;> cases b <;> try exact h.elim
  obtain ⟨t, rfl⟩ := ha
  obtain ⟨t', rfl⟩ := hb
  obtain ⟨h0, h1, h2⟩ := h
  refine floordiv_int (by (first | lia | omega)) (.int R.toks h2 (Int.fdiv_eq_ediv_of_nonneg _ (by (first | lia | omega)))) (.inl (PyProof.noPylong_small (by (first | lia | omega))))
theorem op_mod {F : FX} {a b : AV} {u v : Value} (ha : a.rep u) (hb : b.rep v) : OpSim P D F (binaryOp .Mod u v) (opMod a b) := by
  intro σ s Q E R h
  cases a <;> cases b <;> try exact h.elim
  obtain ⟨t, rfl⟩ := ha
  obtain ⟨t', rfl⟩ := hb
  obtain ⟨h0, h2⟩ := h
  refine mod_int' (by (first | lia | omega)) (.int R.toks h2 (Int.fmod_eq_emod_of_nonneg _ (by (first | lia | omega))))
theorem op_neg {F : FX} {a : AV} {u : Value} (ha : a.rep u) : OpSim P D F (unaryOp .USub u) (opNeg a) := by
  intro σ s Q E R h
  cases a <;> try exact h.elim
  obtain ⟨t, rfl⟩ := ha
  exact neg_int (.int R.toks h)

theorem op_add {F : FX} (O : FOk P D F) {a b : AV} {u v : Value} (ha : a.rep u) (hb : b.rep v) : OpSim P D F (binaryOp .Add u v) (opAdd a b) := by
  intro σ s Q E R h
  cases a <;> cases b <;> try exact h.elim
  · obtain ⟨t, rfl⟩ := ha
    obtain ⟨t', rfl⟩ := hb
    exact add_int (.int R.toks h)
  · subst ha hb
    obtain ⟨xs, ys, h1, h2, h3, h4⟩ := h
    obtain ⟨vs, hv, r1, _⟩ := R.isList h1
    obtain ⟨us, hu, r2, _⟩ := R.isList h2
    obtain ⟨m, Fm, hm⟩ := R.fr
    refine add_arrays Fm (news_all F.L s.heap) hv hu (fun h' F' N' => ?_) ?_
    · refine .ref (R.pushed O (o := .list (xs ++ ys)) hm F' N' rfl fun e => ⟨_, _, e, r1.append r2, by rw [List.length_append]; exact h3⟩) ?_
      exact h4 _ (R.fresh (heap_size_none _)).2
    · rw [r1.length, r2.length] at h3
      rw [List.size_toArray, List.size_toArray, sizeLine_eq]; (first | lia | omega)
end
end
section
section
variable {P : PC} {D : FD}

noncomputable abbrev intsA (ns : List Int) : List AV := ns.map .int

theorem Reps.ints : ∀ {ns : List Int} {vs : List Value}, Reps (intsA ns) vs → IntsAre vs ns
  | [], [], _ => .nil
  | n :: ns, v :: vs, ⟨⟨t, e⟩, r⟩ => by subst e; exact .cons n t (Reps.ints r)
  | [], _ :: _, h => h.elim
  | _ :: _, [], h => h.elim

theorem FOk.room {F : FX} (O : FOk P D F) : F.A.units + 64 < cLine := by have := O.units; unfold cLine; (first | lia | omega)

noncomputable def opMulInts := opMul
theorem joined_eq (xs : List Value) : ∀ (k : Nat) (acc : Array Value), List.foldl (fun x1 x2 => x1 ++ x2) acc (List.replicate k xs.toArray) = (acc.toList ++ (List.replicate k xs).flatten).toArray
  | 0, acc => by simp
  | k + 1, acc => by
    rw [List.replicate_succ, List.foldl_cons, joined_eq xs k, List.replicate_succ, List.flatten_cons]
    simp
theorem Reps.flat {l : List AV} {vs : List Value} (h : Reps l vs) : ∀ k, Reps (List.replicate k l).flatten (List.replicate k vs).flatten
  | 0 => trivial
  | k + 1 => by rw [List.replicate_succ, List.replicate_succ, List.flatten_cons, List.flatten_cons]; exact h.append (h.flat k)

theorem op_mul {F : FX} (O : FOk P D F) {a b : AV} {u v : Value} (ha : a.rep u) (hb : b.rep v) : OpSim P D F (binaryOp .Mult u v) (opMul a b) := by
  intro σ s Q E R h
  cases a <;> cases b <;> try exact h.elim
  · obtain ⟨t, rfl⟩ := ha
    obtain ⟨t', rfl⟩ := hb
    obtain ⟨h1, h2⟩ := h
    exact mul_int (.int R.toks h2) (h1.elim (fun x => .of_left (bits_of_lt x)) fun x => .of_right (bits_of_lt x))
  · subst ha
    obtain ⟨t', rfl⟩ := hb
    obtain ⟨xs, h1, h2, h3, h4, h5⟩ := h
    obtain ⟨vs, n, hv, r, _⟩ := R.plain h1
    obtain ⟨m, Fm, hm⟩ := R.fr
    refine mul_list Fm (news_all F.L s.heap) hv (by (first | lia | omega)) (by (first | lia | omega)) ?_ (fun h' F' N' => .ref (R.pushed O (o := .list (List.replicate _ xs).flatten) hm F' N' rfl fun e => ⟨_, 0, e.trans ?_, r.flat _, by rw [List.length_flatten, List.map_replicate, List.sum_replicate_nat, Nat.mul_comm]; exact h2⟩) (h5 _ (R.fresh (heap_size_none _)).2))
    · rw [List.size_toArray, ← r.length]; (first | lia | omega)
    · rw [joined_eq vs _ #[]]
      cases vs with
      | nil => simp [W.listOf]
      | cons v vs => simp [W.listOf]

-- comparisons
noncomputable def opEq : AV → AV → EP
  | .int x, .int y => fun Q _ σ => Q (.bool (decide (x = y))) σ
  | .bool x, .bool y => fun Q _ σ => Q (.bool (x == y)) σ
  | .ref l, .ref r => fun Q _ σ => ∃ xs ys, σ.lst l = some (intsA xs) ∧ σ.lst r = some (intsA ys) ∧ Q (.bool (decide (xs = ys))) σ
  | _, _ => fun _ _ _ => False
noncomputable def opNe : AV → AV → EP
  | .int x, .int y => fun Q _ σ => Q (.bool (!decide (x = y))) σ
  | .bool x, .bool y => fun Q _ σ => Q (.bool (x != y)) σ
  | .ref l, .ref r => fun Q _ σ => ∃ xs ys, σ.lst l = some (intsA xs) ∧ σ.lst r = some (intsA ys) ∧ Q (.bool (!decide (xs = ys))) σ
  | _, _ => fun _ _ _ => False
noncomputable def opLt : AV → AV → EP
  | .int x, .int y => fun Q _ σ => Q (.bool (decide (x < y))) σ
  | _, _ => fun _ _ _ => False
noncomputable def opGt : AV → AV → EP
  | .int x, .int y => fun Q _ σ => Q (.bool (decide (y < x))) σ
  | _, _ => fun _ _ _ => False
noncomputable def opGe : AV → AV → EP
  | .int x, .int y => fun Q _ σ => Q (.bool (decide (y ≤ x))) σ
  | _, _ => fun _ _ _ => False
noncomputable def opIsN : AV → AV → EP
  | .none, .none => fun Q _ σ => Q (.bool true) σ
  | .ref _, .none => fun Q _ σ => Q (.bool false) σ
  | _, _ => fun _ _ _ => False
noncomputable def opIsNotN : AV → AV → EP
  | .none, .none => fun Q _ σ => Q (.bool false) σ
  | .ref _, .none => fun Q _ σ => Q (.bool true) σ
  | _, _ => fun _ _ _ => False
noncomputable def hasKey (σ : St) (c : Addr) (x : Int) : Option Bool := match σ.hp c with
  | some (.dict es _) => some (es.any (·.1 == x))
  | some (.set S _) => some (S x)
  | _ => none
noncomputable def opIn : AV → AV → EP
  | .int x, .ref c => fun Q _ σ => (∃ xs, σ.lst c = some (intsA xs) ∧ Q (.bool (xs.any (· == x))) σ) ∨ (∃ b, hasKey σ c x = some b ∧ Q (.bool b) σ)
  | _, _ => fun _ _ _ => False
noncomputable def opNotIn : AV → AV → EP
  | .int x, .ref c => fun Q _ σ => (∃ xs, σ.lst c = some (intsA xs) ∧ Q (.bool (!xs.any (· == x))) σ) ∨ (∃ b, hasKey σ c x = some b ∧ Q (.bool (!b)) σ)
  | _, _ => fun _ _ _ => False

theorem op_eq {F : FX} (O : FOk P D F) {a b : AV} {u v : Value} (ha : a.rep u) (hb : b.rep v) : OpSim P D F (compareOp .Eq u v) (opEq a b) := by
  intro σ s Q E R h
  cases a <;> cases b <;> try exact h.elim
  · subst ha hb; refine PyProof.Rows.eq_bool ?_; exact RE.bool R h
  · obtain ⟨t, rfl⟩ := ha
    obtain ⟨t', rfl⟩ := hb
    exact eq_int (.bool R h)
  · subst ha hb
    obtain ⟨xs, ys, h1, h2, h3⟩ := h
    obtain ⟨vs, e1, r1, _⟩ := R.isList h1
    obtain ⟨us, e2, r2, _⟩ := R.isList h2
    exact eq_intsK e1 r1.ints e2 r2.ints O.room (.bool R h3)
theorem op_ne {F : FX} (O : FOk P D F) {a b : AV} {u v : Value} (ha : a.rep u) (hb : b.rep v) : OpSim P D F (compareOp .NotEq u v) (opNe a b) := by
  intro σ s Q E R h
  cases a <;> cases b <;> try exact h.elim
  · subst ha hb; refine PyProof.Rows.ne_bool ?_; exact RE.bool R h
  · obtain ⟨t, rfl⟩ := ha
    obtain ⟨t', rfl⟩ := hb
    exact ne_int (.bool R h)
  · subst ha hb
    obtain ⟨xs, ys, h1, h2, h3⟩ := h
    obtain ⟨vs, e1, r1, _⟩ := R.isList h1
    obtain ⟨us, e2, r2, _⟩ := R.isList h2
    exact ne_intsK e1 r1.ints e2 r2.ints O.room (.bool R h3)
theorem op_gt {F : FX} {a b : AV} {u v : Value} (ha : a.rep u) (hb : b.rep v) : OpSim P D F (compareOp .Gt u v) (opGt a b) := by
  intro σ s Q E R h
  cases a <;> cases b <;> try exact h.elim
  obtain ⟨t, rfl⟩ := ha
  obtain ⟨t', rfl⟩ := hb
  exact gt_int (.bool R h)
theorem op_ge {F : FX} {a b : AV} {u v : Value} (ha : a.rep u) (hb : b.rep v) : OpSim P D F (compareOp .GtE u v) (opGe a b) := by
  intro σ s Q E R h
  cases a <;> cases b <;> try exact h.elim
  obtain ⟨t, rfl⟩ := ha
  obtain ⟨t', rfl⟩ := hb
  exact ge_int (.bool R h)
theorem op_isN {F : FX} {a b : AV} {u v : Value} (ha : a.rep u) (hb : b.rep v) : OpSim P D F (compareOp .Is u v) (opIsN a b) := by
  intro σ s Q E R h
  cases a <;> cases b <;> try exact h.elim
  · subst ha hb; exact wpAny_is_plain rfl (.bool R h)
  · subst ha hb; exact wpAny_is_plain rfl (.bool R h)
theorem op_isNotN {F : FX} {a b : AV} {u v : Value} (ha : a.rep u) (hb : b.rep v) : OpSim P D F (compareOp .IsNot u v) (opIsNotN a b) := by
  intro σ s Q E R h
  cases a <;> cases b <;> try exact h.elim
  · subst ha hb; exact wpAny_isNot_plain rfl (.bool R h)
  · subst ha hb; exact wpAny_isNot_plain rfl (.bool R h)

theorem dict_find {es : List (Int × AV)} {kvs : List (Int × Value)} (h : dictEs es kvs) (x : Int) : es.any (·.1 == x) = (kvs.any (·.1 == x)) := by
  have h1 : es.any (·.1 == x) = (es.map (·.1)).any (· == x) := by rw [List.any_map]; rfl
  have h2 : kvs.any (·.1 == x) = (kvs.map (·.1)).any (· == x) := by rw [List.any_map]; rfl
  rw [h1, h2, h.1]

end
end
section
section
variable {P : PC} {D : FD}

theorem valueAt_any (kvs : List (Int × Value)) (x : Int) : (valueAt kvs x).isSome = kvs.any (·.1 == x) := by
  unfold valueAt
  rw [Option.isSome_map]
  induction kvs with
  | nil => rfl
  | cons a l ih =>
    rw [List.find?_cons, List.any_cons]
    by_cases h : a.1 = x
    · simp [h]
    · simp [h, ih]

theorem hasKey_in {F : FX} {σ : St} {s : Shared} {c : Addr} {x : Int} {b : Bool} {t : Tok} {Q : Value → Shared → Prop} {E : Value → Shared → Prop} (R : Rel P D F σ s) (h : hasKey σ c x = some b)
    (hq : Q (.bool b) { s with toks := s.toks + 1 }) : wpAny (model P.prog P.w) F.A (compareOp .In (.int x t) (.ref c)) Q E s := by
  unfold hasKey at h
  split at h
  · rename_i es ep e
    obtain ⟨kvs, hd, hes, hsys, _⟩ := (R.hp c _ e).1
    refine wpAny_in_of (knd := intKind P.prog P.w) (k := x) (by simp [intKind, Value.isInt]) hsys hd.dictOf.mapOf ?_
    rw [valueAt_any, ← dict_find hes]
    cases h; exact hq
  · rename_i S n e
    have hS := (R.hp c _ e).1
    refine wpAny_inSet_of (knd := intKind P.prog P.w) (k := x) (by simp [intKind, Value.isInt]) rfl hS ?_
    cases h; exact hq
  · cases h
theorem op_in {F : FX} {a b : AV} {u v : Value} (ha : a.rep u) (hb : b.rep v) : OpSim P D F (compareOp .In u v) (opIn a b) := by
  intro σ s Q E R h
  cases a <;> cases b <;> try exact h.elim
  obtain ⟨t, rfl⟩ := ha
  subst hb
  rcases h with ⟨xs, h1, h2⟩ | ⟨b, h1, h2⟩
  · obtain ⟨vs, e1, r1, hz⟩ := R.isList h1
    exact in_list_ints e1 r1.ints (.bool R h2)
  · exact hasKey_in R h1 (.bool R.toks h2)
-- truth
noncomputable def pTruth : AV → TP
  | .none => fun Q _ σ => Q false σ
  | .bool b => fun Q _ σ => Q b σ
  | .int i => fun Q _ σ => Q (!decide (i = 0)) σ
  | .ref a => fun Q _ σ => ∃ l, σ.lst a = some l ∧ Q (!l.isEmpty) σ

theorem op_truth {F : FX} {a : AV} {u : Value} (ha : a.rep u) {σ : St} {s : Shared} {Q : Bool → St → Prop} {E : Ex → St → Prop} (R : Rel P D F σ s) (h : pTruth a Q E σ) :
    wpAny (model P.prog P.w) F.A (truthy u) (RB P D F Q) (RX P D F E) s := by
  cases a with
  | none => subst ha; exact truthy_none ⟨σ, R, h⟩
  | bool b => subst ha; exact wpAny_truthy_bool ⟨σ, R, h⟩
  | int i => obtain ⟨t, rfl⟩ := ha; exact PyProof.Rows.truthy_int ⟨σ, R, h⟩
  | ref a =>
    subst ha
    obtain ⟨l, h1, h2⟩ := h
    obtain ⟨vs, e1, r1, hz⟩ := R.isList h1
    have := r1.length
    refine wpAny_truthy_list e1 (by rw [List.size_toArray]; (first | lia | omega)) ⟨σ, R.toks, ?_⟩
    have e : l.isEmpty = vs.toArray.isEmpty := by
      cases l <;> cases vs <;> simp_all
    rw [← e]; exact h2

noncomputable def tOf (p : EP) : TP := fun Q E σ => p (fun v σ' => pTruth v Q E σ') E σ
noncomputable def tNot (p : TP) : TP := fun Q E σ => p (fun b σ' => Q (!b) σ') E σ
noncomputable def tAnd (p q : TP) : TP := fun Q E σ => p (fun b σ' => if b then q Q E σ' else Q false σ') E σ
noncomputable def tOr (p q : TP) : TP := fun Q E σ => p (fun b σ' => if b then Q true σ' else q Q E σ') E σ
noncomputable def tTrue : TP := fun Q _ σ => Q true σ
noncomputable def tFalse : TP := fun Q _ σ => Q false σ

theorem sim_tOf {e : Expr} {p : EP} (h : SimE P D e p) (he : ∀ (env : Env) (whole : Sem Value), isTrue e env whole = (do let v ← whole; standAt e.pos; holding [v] (truthy v)) := by intro _ _; rfl) : SimT P D e (tOf p) := by
  intro F O σ s Q E R hp
  refine isTrue_plain (wpAny_mono (h F O σ s _ E R hp) ?_ fun _ _ x => x) (he _ _)
  rintro v s₁ ⟨a, σ₁, ha, R₁, h₁⟩
  exact op_truth ha R₁ h₁
theorem sim_tCmp {l r : Expr} {op : CmpOp} {pos : Pos} {pl pr : EP} {f : AV → AV → EP} (hl : SimE P D l pl) (hr : SimE P D r pr)
    (ho : ∀ F, FOk P D F → ∀ a b u v, a.rep u → b.rep v → OpSim P D F (compareOp op u v) (f a b)) (hm : behindInMarks op r = false := by with_unfolding_all rfl) : SimT P D (.Compare l [op] [r] pos) (tOf (pBin f pl pr)) := by
  intro F O σ s Q E R h
  refine wpAny_isTrue_Compare1 (wpAny_mono (hl F O σ s _ E R h) ?_ fun _ _ x => x) hm
  rintro u s₁ ⟨a, σ₁, ha, R₁, h₁⟩
  refine wpAny_mono (hr F O σ₁ s₁ _ E R₁ h₁) ?_ fun _ _ x => x
  rintro v s₂ ⟨b, σ₂, hb, R₂, h₂⟩
  refine wpAny_mono (ho F O a b u v ha hb σ₂ s₂ _ E R₂ h₂) ?_ fun _ _ x => x
  rintro w s₃ ⟨c, σ₃, hc, R₃, h₃⟩
  exact op_truth hc R₃ h₃
theorem sim_tNot {x : Expr} {pos : Pos} {p : TP} (h : SimT P D x p) : SimT P D (.UnaryOp .Not x pos) (tNot p) := by
  intro F O σ s Q E R hp
  exact wpAny_isTrue_Not (wpAny_mono (h F O σ s _ E R hp) (fun b s₁ ⟨σ₁, R₁, h₁⟩ => ⟨σ₁, R₁, h₁⟩) fun _ _ x => x)
-- values of and, or, not, a if b else c
noncomputable def pAnd (p q : EP) : EP := fun Q E σ => p (fun v σ' => pTruth v (fun b σ'' => if b then q Q E σ'' else Q v σ'') E σ') E σ
noncomputable def pOr (p q : EP) : EP := fun Q E σ => p (fun v σ' => pTruth v (fun b σ'' => if b then Q v σ'' else q Q E σ'') E σ') E σ
noncomputable def pNot (p : EP) : EP := fun Q E σ => p (fun v σ' => pTruth v (fun b σ'' => Q (.bool (!b)) σ'') E σ') E σ
noncomputable def pIf (t : TP) (p q : EP) : EP := fun Q E σ => t (fun b σ' => if b then p Q E σ' else q Q E σ') E σ
-- displays
noncomputable def lNil : LP := fun Q _ σ => Q [] σ
noncomputable def lCons (p : EP) (q : LP) : LP := fun Q E σ => p (fun v σ' => q (fun vs σ'' => Q (v :: vs) σ'') E σ') E σ
theorem sim_nil : SimL P D [] lNil := fun F _ pos σ s Q E R h => wpAny_items_nil (⟨[], σ, trivial, R, h⟩ : RL P D F Q [] s)
theorem sim_cons {e : Expr} {es : List Expr} {p : EP} {q : LP} (h : SimE P D e p) (h' : SimL P D es q) (he : ∀ env, starEach (e :: es) env = (false, eval e env) :: starEach es env := by intro _; rfl) : SimL P D (e :: es) (lCons p q) := by
  intro F O pos σ s Q E R hp
  refine wpAny_items_cons (wpAny_mono (h F O σ s _ E R hp) ?_ fun _ _ x => x) (he _)
  rintro u s₁ ⟨a, σ₁, ha, R₁, h₁⟩
  refine wpAny_mono (h' F O pos σ₁ s₁ _ E R₁ h₁) ?_ fun _ _ x => x
  rintro us s₂ ⟨as, σ₂, has, R₂, h₂⟩
  exact ⟨a :: as, σ₂, ⟨ha, has⟩, R₂, h₂⟩

noncomputable def pList (q : LP) : EP := fun Q E σ => q (fun vs σ' => vs.length ≤ 1000000 ∧ ∀ a, σ'.hp a = none → Q (.ref a) ⟨σ'.loc, upd σ'.hp a (.list vs)⟩) E σ
noncomputable def pTuple (q : LP) : EP := fun Q E σ => q (fun vs σ' => vs.length ≤ 1000000 ∧ ∀ a, σ'.hp a = none → Q (.ref a) ⟨σ'.loc, upd σ'.hp a (.tup vs)⟩) E σ
theorem sim_list {es : List Expr} {pos : Pos} {q : LP} (h : SimL P D es q) : SimE P D (.List es pos) (pList q) := by
  intro F O σ s Q E R hp
  refine wpAny_List (wpAny_mono (h F O pos σ s _ E R hp) ?_ fun _ _ x => x)
  rintro us s₁ ⟨as, σ₁, ha, R₁, hz, h₁⟩
  have := ha.length
  exact ⟨by rw [sizeLine_eq]; (first | lia | omega), .ref (R₁.push _ (.list as) rfl ⟨us, 0, Heap.get?_push_size _ rfl, ha, hz⟩) (h₁ _ (R₁.fresh (heap_size_none _)).2)⟩
end
end
section
section
variable {P : PC} {D : FD}

noncomputable def St.item (σ : St) (a : Addr) (k : Int) : Option AV := match σ.hp a with
  | some (.list l) => (seqIndex? k l.length).bind (l[·]?)
  | some (.flist l) => (seqIndex? k l.length).bind (l[·]?)
  | some (.tup l) => (seqIndex? k l.length).bind (l[·]?)
  | some (.dict es _) => (es.find? fun e => e.1 = k).map (·.2)
  | _ => none
noncomputable def opItem : AV → AV → EP
  | .ref a, .int k => fun Q _ σ => ∃ v, σ.item a k = some v ∧ Q v σ
  | _, _ => fun _ _ _ => False

theorem seqIndex_some {k : Int} {n j : Nat} (h : seqIndex? k n = some j) : (0 ≤ k ∧ k = j ∧ j < n) ∨ (k < 0 ∧ k + n = j ∧ j < n) := by
  unfold seqIndex? at h
  dsimp only at h
  by_cases hk : k < 0
  · rw [if_pos hk] at h
    by_cases hc : (decide (0 ≤ k + (n : Int)) && decide (k + (n : Int) < n)) = true
    · rw [if_pos hc] at h
      simp only [Bool.and_eq_true, decide_eq_true_eq] at hc
      have := Option.some.inj h
      exact .inr ⟨hk, by omega, by omega⟩
    · rw [if_neg hc] at h; cases h
  · rw [if_neg hk] at h
    by_cases hc : (decide (0 ≤ k) && decide (k < n)) = true
    · rw [if_pos hc] at h
      simp only [Bool.and_eq_true, decide_eq_true_eq] at hc
      have := Option.some.inj h
      exact .inl ⟨by omega, by omega, by omega⟩
    · rw [if_neg hc] at h; cases h

theorem dict_value : ∀ {es : List (Int × AV)} {kvs : List (Int × Value)} (_ : dictEs es kvs) (k : Int) {v : AV}, (es.find? fun e => e.1 = k).map (·.2) = some v → ∃ u, valueAt kvs k = some u ∧ v.rep u
  | [], [], _, _, _, h => by simp at h
  | e :: es, x :: kvs, ⟨h1, h2⟩, k, v, h => by
    simp only [List.map_cons, List.cons.injEq] at h1
    obtain ⟨h3, h4⟩ := h2
    unfold valueAt
    rw [List.find?_cons] at h ⊢
    rw [h1.1]
    by_cases hk : e.1 = k
    · simp only [hk, decide_true] at h ⊢
      cases h; exact ⟨x.2, rfl, h3⟩
    · simp only [hk, decide_false] at h ⊢
      exact dict_value ⟨h1.2, h4⟩ k h
  | [], _ :: _, ⟨h1, _⟩, _, _, _ => by simp at h1
  | _ :: _, [], ⟨h1, _⟩, _, _, _ => by simp at h1

theorem op_item {F : FX} {a b : AV} {u v : Value} (ha : a.rep u) (hb : b.rep v) : OpSim P D F (getItem u v) (opItem a b) := by
  intro σ s Q E R h
  cases a <;> cases b <;> try exact h.elim
  rename_i a k
  subst ha
  obtain ⟨t, rfl⟩ := hb
  obtain ⟨x, h1, h2⟩ := h
  unfold St.item at h1
  have lst : ∀ l, σ.lst a = some l → (seqIndex? k l.length).bind (l[·]?) = some x → wpAny (model P.prog P.w) F.A (getItem (.ref a) (.int k t)) (RE P D F Q) (RX P D F E) s := by
    intro l hl hx
    obtain ⟨vs, e1, r1, hz⟩ := R.isList hl
    obtain ⟨j, hj, hxj⟩ := Option.bind_eq_some_iff.mp hx
    obtain ⟨y, hy, hr⟩ := r1.get j hxj
    have hlen := r1.length
    rcases seqIndex_some hj with ⟨h3, h4, h5⟩ | ⟨h3, h4, h5⟩
    · exact wpAny_getItem_list e1 h3 (by omega) (by rw [h4]; simpa using hy) ⟨x, σ, hr, R, h2⟩
    · refine wpAny_getItem_list_neg e1 h3 (by rw [List.size_toArray]; omega) (by omega) ?_ ⟨x, σ, hr, R, h2⟩
      rw [List.size_toArray, ← hlen, h4]; simpa using hy
  split at h1
  · rename_i l e; exact lst l (by unfold St.lst; rw [e]) h1
  · rename_i l e; exact lst l (by unfold St.lst; rw [e]) h1
  · rename_i l e
    obtain ⟨vs, n, e1, r1, hz⟩ := R.tup e
    obtain ⟨j, hj, hxj⟩ := Option.bind_eq_some_iff.mp h1
    obtain ⟨y, hy, hr⟩ := r1.get j hxj
    have hlen := r1.length
    have := seqIndex_some hj
    exact PyProof.Rows.getItem_tuple (items := vs.toArray) ⟨_, e1, rfl, n, rfl⟩ (by omega) (by omega) (by rw [List.size_toArray, ← hlen]; exact hj) (by simpa using hy) ⟨x, σ, hr, R, h2⟩
  · rename_i es ep e
    obtain ⟨kvs, hd, hes, hsys, _⟩ := (R.hp a _ e).1
    obtain ⟨y, hy, hr⟩ := dict_value hes k h1
    exact wpAny_getItem_of (knd := intKind P.prog P.w) (k := k) (by simp [intKind, Value.isInt]) hd.dictOf.mapOf hy ⟨x, σ, hr, R.toks, h2⟩
  · cases h1

theorem item_type {F : FX} {σ : St} {s : Shared} (R : Rel P D F σ s) {a : Addr} {k : Int} {v : AV} (h : σ.item a k = some v) : ∃ T id, s.TypeIs (.ref a) T ∧ typeLookup (.type T) "__getitem__" = pure (some (.builtin id)) := by
  unfold St.item at h
  split at h
  · rename_i l e
    obtain ⟨vs, n, e1, _⟩ := R.plain e
    exact ⟨"list", _, ⟨_, e1, rfl⟩, slot_list_getitem.lookup⟩
  · rename_i l e
    obtain ⟨vs, e1, _⟩ := R.isList (by unfold St.lst; rw [e])
    exact ⟨"list", _, e1.typeIs, slot_list_getitem.lookup⟩
  · rename_i l e
    obtain ⟨vs, n, e1, _⟩ := R.tup e
    exact ⟨"tuple", _, ⟨_, e1, rfl⟩, slot_tuple_getitem.lookup⟩
  · rename_i es ep e
    obtain ⟨kvs, hd, _⟩ := (R.hp a _ e).1
    exact ⟨"dict", _, hd.dictOf.typeIs, slot_dict_getitem.lookup⟩
  · cases h

noncomputable def notSlice : Expr → Bool
  | .Slice .. => false
  | _ => true

theorem sim_item {value slice : Expr} {pos : Pos} {p q : EP} (h : SimE P D value p) (h' : SimE P D slice q) (hs : notSlice slice = true := by rfl) : SimE P D (.Subscript value slice pos) (pBin opItem p q) := by
  intro F O σ s Q E R hp
  refine Subscript_ (wpAny_mono (h F O σ s _ E R hp) ?_ fun _ _ x => x)
  rintro u s₁ ⟨a, σ₁, ha, R₁, h₁⟩
  refine wpAny_mono (h' F O σ₁ s₁ _ E R₁ h₁) ?_ fun _ _ x => x
  rintro v s₂ ⟨b, σ₂, hb, R₂, h₂⟩
  have main := op_item ha hb σ₂ s₂ Q E R₂ h₂
  cases a <;> cases b <;> try exact h₂.elim
  rename_i a k
  obtain ⟨x, hx, _⟩ := h₂
  obtain ⟨T, id, hT, hl⟩ := item_type R₂ hx
  obtain ⟨t, rfl⟩ := hb
  subst ha
  refine tail_any hT hl main (ops := [.ref a, .int k t]) ?_
  cases slice <;> first | rfl | cases hs

-- slices
noncomputable def clipN (v : Option Int) (dflt n : Nat) : Nat := match v with
  | none => dflt
  | some i => (max 0 (min (if i < 0 then i + n else i) n)).toNat
noncomputable def pickA (xs : List AV) (lo hi : Option Int) : List AV := (xs.drop (clipN lo 0 xs.length)).take (clipN hi xs.length xs.length - clipN lo 0 xs.length)

theorem slicePick_eq (vs : List Value) (lo hi : Option Int) : slicePick vs.toArray lo hi none = ((vs.drop (clipN lo 0 vs.length)).take (clipN hi vs.length vs.length - clipN lo 0 vs.length)).toArray := by
  have e : sliceBounds lo hi none vs.toArray.size = (((clipN lo 0 vs.length : Nat) : Int), ((clipN hi vs.length vs.length : Nat) : Int), 1) := by
    unfold sliceBounds clipN
    simp only [Option.getD_none, show (1 : Int) > 0 by decide, if_true, List.size_toArray]
    congr 1
    · cases lo with
      | none => rfl
      | some i => exact (Int.toNat_of_nonneg (Int.le_max_left ..)).symm
    · congr 1
      cases hi with
      | none => rfl
      | some i => exact (Int.toNat_of_nonneg (Int.le_max_left ..)).symm
  rw [kmk_pick_nat _ e]

theorem Reps.pick {l : List AV} {vs : List Value} (r : Reps l vs) (lo hi : Option Int) : Reps (pickA l lo hi) ((vs.drop (clipN lo 0 vs.length)).take (clipN hi vs.length vs.length - clipN lo 0 vs.length)) := by
  unfold pickA
  rw [r.length]
  exact (r.drop _).take _

noncomputable def partOf : AV → Option (Option Int)
  | .none => some none
  | .int i => some (some i)
  | _ => none
theorem isPart {a : AV} {u : Value} {lo : Option Int} (ha : a.rep u) (h : partOf a = some lo) : IsPart u lo := by
  cases a <;> simp only [partOf] at h <;> try cases h
  · subst ha; exact .none
  · obtain ⟨t, rfl⟩ := ha; exact .int _ t

noncomputable def SimO (P : PC) (D : FD) (e : Option Expr) (p : EP) : Prop := ∀ F, FOk P D F → ∀ σ s Q E, Rel P D F σ s → p Q E σ → wpAny (model P.prog P.w) F.A (evalPart e F.env) (RE P D F Q) (RX P D F E) s
theorem sim_oNone : SimO P D none pNone := fun _ _ _ _ _ _ R h => wpAny_evalPart_none (RE.none R h)
theorem sim_oSome {e : Expr} {p : EP} (h : SimE P D e p) : SimO P D (some e) p := fun F O σ s Q E R hp => wpAny_evalPart_some (h F O σ s Q E R hp)

noncomputable def pSlice (p l u : EP) : EP := fun Q E σ => p (fun v σ₁ => l (fun lv σ₂ => u (fun uv σ₃ => ∃ a lo hi xs, v = .ref a ∧ partOf lv = some lo ∧ partOf uv = some hi ∧ σ₃.lst a = some xs ∧
  ∀ b, σ₃.hp b = none → Q (.ref b) ⟨σ₃.loc, upd σ₃.hp b (.list (pickA xs lo hi))⟩) E σ₂) E σ₁) E σ

theorem pickA_len (xs : List AV) (lo hi : Option Int) : (pickA xs lo hi).length ≤ xs.length := by
  exact Nat.le_trans (List.length_take_le' ..) (by rw [List.length_drop]; exact Nat.sub_le ..)

theorem sim_slice {value : Expr} {lower upper : Option Expr} {p' pos : Pos} {p l u : EP} (h : SimE P D value p) (hl : SimO P D lower l) (hu : SimO P D upper u) : SimE P D (.Subscript value (.Slice lower upper none p') pos) (pSlice p l u) := by
  intro F O σ s Q E R hp
  refine Subscript_ (wpAny_mono (h F O σ s _ E R hp) ?_ fun _ _ x => x)
  rintro uu s₁ ⟨a, σ₁, ha, R₁, h₁⟩
  refine wpAny_Slice (wpAny_mono (hl F O σ₁ s₁ _ E R₁ h₁) ?_ fun _ _ x => x)
  rintro lv s₂ ⟨b, σ₂, hb, R₂, h₂⟩
  refine wpAny_mono (hu F O σ₂ s₂ _ E R₂ h₂) ?_ fun _ _ x => x
  rintro uv s₃ ⟨c, σ₃, hc, R₃, a', lo, hi, xs, rfl, e1, e2, e3, h₃⟩
  refine wpAny_evalPart_none ?_
  subst ha
  obtain ⟨vs, hv, r, hz⟩ := R₃.isList e3
  have hk : ∀ b o, s₃.heap.get? b = some o → (s₃.heap.push { cls := .type "slice", data := .fields #[lv, uv, .none] }).get? b = some o := fun _ _ e => Heap.get?_push_of_some _ e
  have R₄ := R₃.ext (t := s₃.toks) hk
  refine tail_any (T := "list") (ops := [.ref s₃.heap.objs.size, .ref a']) (hv.push _).typeIs slot_list_getitem.lookup ?_ rfl
  refine wpAny_getItem_list_slice (hv.push _) ⟨_, Heap.get?_push_size _ rfl, rfl, rfl⟩ (isPart hb e1) (isPart hc e2) .none (by decide) ?_ (by have := r.length; rw [List.size_toArray, sizeLine_eq]; omega)
  refine .ref (R₄.push _ (.list (pickA xs lo hi)) rfl ⟨_, 0, ?_, r.pick lo hi, ?_⟩) (h₃ _ ((R₄.fresh (heap_size_none _)).2))
  · rw [slicePick_eq]
    exact Heap.get?_push_size _ rfl
  · have := pickA_len xs lo hi; omega

end
end
section
noncomputable def sName : Nat → Str
  | 0 => "_node2info"
  | 1 => "_ready_nodes"
  | 2 => "_npassedout"
  | _ => "_nfinished"
noncomputable def nName : Nat → Str
  | 0 => "node"
  | 1 => "npredecessors"
  | _ => "successors"

structure POk (P : PC) : Prop where
  sGet : ∀ k, k < 4 → plainGet P.K P.cS (sName k) = true ∧ findIn P.K (.ref P.cS) (sName k) = some none ∧ takerIn P.K P.cS (sName k) = some none
  sDict : hasDictIn P.K P.cS = true
  sSet : findIn P.K (.ref P.cS) "__setattr__" = some (some (.builtin "object.__setattr__"))
  sOver : plainOver P.K P.cS = true
  nSet : findIn P.K (.ref P.cN) "__setattr__" = some (some (.builtin "object.__setattr__"))
  nOver : plainOver P.K P.cN = true
  nCls : isClsIn P.K P.cN = true
  nSlot : ∀ k, k < 3 → ∃ p, plainGet P.K P.cN (nName k) = true ∧ findIn P.K (.ref P.cN) (nName k) = some (some (.ref p)) ∧ specialIn P.K (.ref p) "__get__" = some (some (.builtin "member_descriptor.__get__")) ∧
    takesIn P.K (.ref p) = some true ∧ slotIn P.K p P.cN = some k ∧ takerIn P.K P.cN (nName k) = some (some (.ref p)) ∧ typeIn P.K (.ref p) = some (.type "member_descriptor")

noncomputable def AObj.fld : AObj → Nat → Option AV
  | .sd v0 v1 v2 v3, k => match k with | 0 => v0 | 1 => v1 | 2 => v2 | _ => v3
  | _, _ => none
noncomputable def AObj.setFld : AObj → Nat → AV → AObj
  | .sd v0 v1 v2 v3, k, v => match k with | 0 => .sd (some v) v1 v2 v3 | 1 => .sd v0 (some v) v2 v3 | 2 => .sd v0 v1 (some v) v3 | _ => .sd v0 v1 v2 (some v)
  | o, _, _ => o

section
variable {P : PC} {D : FD}

theorem FOk.kin {F : FX} (O : FOk P D F) {σ : St} {s : Shared} (R : Rel P D F σ s) : P.K.In s.heap := O.X.keeps fun b o e => R.keep b o (O.kbg b o e)

theorem rep_handed {a : AV} {u : Value} (h : a.rep u) : handedIn u = true := by
  cases a <;> simp only [AV.rep] at h
  · subst h; rfl
  · subst h; rfl
  · obtain ⟨t, rfl⟩ := h; rfl
  · subst h; rfl

theorem inst_at {F : FX} {σ : St} {s : Shared} (R : Rel P D F σ s) {a d : Addr} {v0 v1 v2 v3 : Option AV} (ha : σ.hp a = some (.inst d)) (hd : σ.hp d = some (.sd v0 v1 v2 v3)) :
    ∃ des n, InstAt s.heap a (instObj P.cS d) P.cS (some (dictOf des n)) ∧ s.heap.get? d = some (dictOf des n) ∧ des.any (·.refKey) = false ∧ des.length ≤ cnt v0 + cnt v1 + cnt v2 + cnt v3 ∧ (∀ k, k < 4 → fieldIs des (sName k) ((AObj.sd v0 v1 v2 v3).fld k)) ∧
      ∀ x : Str, x ≠ "_node2info" → x ≠ "_ready_nodes" → x ≠ "_npassedout" → x ≠ "_nfinished" → getL x des = some none := by
  obtain ⟨des, n, e, h1, h2, f0, f1, f2, f3, hx⟩ := (R.hp d _ hd).1
  have ea : s.heap.get? a = some (instObj P.cS d) := (R.hp a _ ha).1
  refine ⟨des, n, ⟨ea, rfl, rfl, e⟩, e, h1, h2, fun k hk => ?_, hx⟩
  match k, hk with
  | 0, _ => exact f0
  | 1, _ => exact f1
  | 2, _ => exact f2
  | 3, _ => exact f3
  | k + 4, h => (first | lia | omega)

noncomputable def opAttrS (k : Nat) : AV → EP
  | .ref a => fun Q _ σ => ∃ d o v, σ.hp a = some (.inst d) ∧ σ.hp d = some o ∧ o.fld k = some v ∧ Q v σ
  | _ => fun _ _ _ => False
theorem op_attrS {F : FX} (hP : POk P) (O : FOk P D F) {k : Nat} (hk : k < 4) {a : AV} {u : Value} (ha : a.rep u) {b : Bool} : OpSim P D F (getAttr u (sName k) b) (opAttrS k a) := by
  intro σ s Q E R h
  cases a <;> try exact h.elim
  subst ha
  obtain ⟨d, o, v, h1, h2, h3, h4⟩ := h
  cases o <;> simp only [AObj.fld] at h3 <;> try cases h3
  obtain ⟨des, n, I, e, _, _, hf, _⟩ := inst_at R h1 h2
  have hfk := hf k hk
  have e3 : (AObj.sd _ _ _ _).fld k = some v := h3
  rw [e3] at hfk
  obtain ⟨u', g1, g2⟩ := hfk
  obtain ⟨m, Fm⟩ := R.frG O
  obtain ⟨p1, p2, _⟩ := hP.sGet k hk
  exact get_own Fm O.X I p1 hP.sDict p2 rfl g1 (rep_handed g2) ⟨v, σ, g2, R.toks, h4⟩

theorem getL_put {x y : Str} {hsh : Int} {t : Tok} {v : Value} : ∀ (des : List DictEntry), des.any (·.refKey) = false → getL x (putL y hsh (.str y t) v des) = if x = y then some (some v) else getL x des
  | [], _ => by
    unfold putL getL
    by_cases h : x = y
    · subst h
      have : (Value.str x t).isStr x = true := by simp [Value.isStr]
      simp [List.find?_cons, this]
    · have : (Value.str y t).isStr x = false := by simp [Value.isStr, Ne.symm h]
      simp [List.find?_cons, this, h, DictEntry.refKey]
  | e :: r, hr => by
    rw [List.any_cons, Bool.or_eq_false_iff] at hr
    unfold putL
    by_cases hy : e.key.isStr y = true
    · rw [if_pos hy]
      obtain ⟨t', hk⟩ : ∃ t', e.key = .str y t' := by
        cases hke : e.key <;> rw [hke] at hy <;> simp [Value.isStr] at hy
        exact ⟨_, by rw [hy]⟩
      unfold getL
      by_cases h : x = y
      · subst h
        simp [List.find?_cons, hy]
      · have h1 : e.key.isStr x = false := by rw [hk]; simp [Value.isStr, Ne.symm h]
        simp only [List.find?_cons, h1, if_neg h]
        have : (DictEntry.refKey { hash := e.hash, key := e.key, val := v }) = e.refKey := rfl
        simp only [List.any_cons, this]
        rfl
    · rw [if_neg hy]
      have ih := getL_put (x := x) (y := y) (hsh := hsh) (t := t) (v := v) r hr.2
      unfold getL at ih ⊢
      simp only [List.find?_cons, List.any_cons, hr.1, Bool.false_or]
      cases hx : e.key.isStr x with
      | true =>
        by_cases h : x = y
        · subst h; exact absurd hx hy
        · simp [h]
      | false => simpa using ih

theorem put_noref {y : Str} {hsh : Int} {t : Tok} {v : Value} : ∀ (des : List DictEntry), des.any (·.refKey) = false → (putL y hsh (.str y t) v des).any (·.refKey) = false
  | [], _ => by simp [putL, DictEntry.refKey]
  | e :: r, hr => by
    rw [List.any_cons, Bool.or_eq_false_iff] at hr
    unfold putL
    split
    · rw [List.any_cons, Bool.or_eq_false_iff]; exact ⟨hr.1, hr.2⟩
    · rw [List.any_cons, Bool.or_eq_false_iff]; exact ⟨hr.1, put_noref r hr.2⟩


theorem put_len {y : Str} {hsh : Int} {k v : Value} : ∀ (des : List DictEntry), (putL y hsh k v des).length ≤ des.length + 1
  | [] => by simp [putL]
  | e :: r => by
    unfold putL
    split
    · simp
    · have := put_len (y := y) (hsh := hsh) (k := k) (v := v) r
      simp only [List.length_cons]; (first | lia | omega)
theorem put_len_same {y : Str} {hsh : Int} {k v : Value} : ∀ (des : List DictEntry), des.any (·.key.isStr y) = true → (putL y hsh k v des).length = des.length
  | [], h => by simp at h
  | e :: r, h => by
    unfold putL
    split
    · simp
    · rename_i hn
      simp only [List.any_cons, Bool.or_eq_true] at h
      have := put_len_same (y := y) (hsh := hsh) (k := k) (v := v) r (h.resolve_left hn)
      simp only [List.length_cons]; (first | lia | omega)

theorem nodup_split {d : Addr} {o : Obj} : ∀ {l : List (Addr × Obj)}, (l.map (·.1)).Nodup → (d, o) ∈ l → ∃ pre post, l = pre ++ (d, o) :: post ∧ (∀ p ∈ pre, p.1 ≠ d) ∧ ∀ p ∈ post, p.1 ≠ d := by
  intro l hn hm
  obtain ⟨pre, post, rfl⟩ := List.append_of_mem hm
  refine ⟨pre, post, rfl, fun p hp e => ?_, fun p hp e => ?_⟩
  · rw [List.map_append, List.map_cons, List.nodup_append] at hn
    exact hn.2.2 p.1 (List.mem_map_of_mem hp) d (List.mem_cons_self ..) e
  · rw [List.map_append, List.map_cons, List.nodup_append] at hn
    exact (List.nodup_cons.mp hn.2.1).1 (List.mem_map.mpr ⟨p, hp, e⟩)
theorem allBut_keys (L : Addr) (h : Heap) : ∀ (l : List Nat), l.Nodup → ((l.filterMap fun a => if a = L then none else (h.get? a).map (a, ·)).map (·.1)).Nodup ∧ ∀ p ∈ (l.filterMap fun a => if a = L then none else (h.get? a).map (a, ·)), p.1 ∈ l
  | [], _ => ⟨.nil, fun _ h => by simp at h⟩
  | a :: l, hn => by
    obtain ⟨h1, h2⟩ := List.nodup_cons.mp hn
    obtain ⟨i1, i2⟩ := allBut_keys L h l h2
    rw [List.filterMap_cons]
    split
    · exact ⟨i1, fun p hp => List.mem_cons_of_mem _ (i2 p hp)⟩
    · rename_i b e
      have eb : b.1 = a := by
        split at e
        · cases e
        · obtain ⟨o, _, e2⟩ := Option.map_eq_some_iff.mp e
          rw [← e2]
      refine ⟨?_, fun p hp => ?_⟩
      · rw [List.map_cons, List.nodup_cons]
        refine ⟨fun hm => ?_, i1⟩
        obtain ⟨p, hp, e3⟩ := List.mem_map.mp hm
        exact h1 (eb ▸ e3 ▸ i2 p hp)
      · rcases List.mem_cons.mp hp with rfl | hp
        · rw [eb]; exact List.mem_cons_self ..
        · exact List.mem_cons_of_mem _ (i2 p hp)
theorem allBut_nodup (L : Addr) (h : Heap) : ((allBut L h).map (·.1)).Nodup := (allBut_keys L h _ List.nodup_range).1

theorem Rel.turned {F : FX} {σ : St} {s : Shared} (R : Rel P D F σ s) (O : FOk P D F) {m : Str → Option Value} {h' : Heap} {ob ob' : Obj} {o o' : AObj} {t : Nat} {a : Addr} {pre post : List (Addr × Obj)} (hm : s.heap.Ns F.L m) (F' : Fr noHeap F.L h' m)
    (hsp : allBut F.L s.heap = pre ++ (a, ob) :: post) (N' : News noHeap F.L h' (pre ++ (a, ob') :: post)) (ha : σ.hp a = some o) (hf : o.frozen = false) (hf' : o'.frozen = false)
    (ho : h'.get? a = some ob' → o'.at P h' a) : Rel P D F ⟨σ.loc, upd σ.hp a o'⟩ { s with heap := h', toks := t } := by
  refine R.changeL O (fun b => b = a) (fun b e => e ▸ R.free ha hf) (fun m' hm' => ns_unique hm' hm ▸ F'.ns) (fun b ox hb ne e => ?_) fun b o₂ e => ?_
  · have hmem := mem_all ne e
    rw [hsp] at hmem
    rcases List.mem_append.mp hmem with h1 | h1
    · exact (N' _ (List.mem_append_left _ h1)).1
    · rcases List.mem_cons.mp h1 with h2 | h2
      · exact absurd (congrArg Prod.fst h2) hb
      · exact (N' _ (List.mem_append_right _ (List.mem_cons_of_mem _ h2))).1
  · unfold upd at e
    split at e
    · rename_i q; subst q; cases e
      exact .inr ⟨R.free ha hf, hf', ho (N' _ (List.mem_append_right _ (List.mem_cons_self ..))).1⟩
    · rename_i q; exact .inl ⟨e, q⟩

noncomputable def USim (P : PC) (D : FD) (F : FX) (t : Sem Unit) (p : SP) : Prop := ∀ σ s Q E, Rel P D F σ s → p Q E σ → wpAny (model P.prog P.w) F.A t (fun _ s' => ∃ σ', Rel P D F σ' s' ∧ Q .next σ') (RX P D F E) s

noncomputable def opSetS (k : Nat) : AV → AV → SP
  | .ref a, v => fun Q _ σ => ∃ d o, σ.hp a = some (.inst d) ∧ σ.hp d = some o ∧ (∃ v0 v1 v2 v3, o = .sd v0 v1 v2 v3) ∧ Q .next ⟨σ.loc, upd σ.hp d (o.setFld k v)⟩
  | _, _ => fun _ _ _ => False

theorem fieldIs_put {x y : Str} {hsh : Int} {t : Tok} {u : Value} {des : List DictEntry} (hr : des.any (·.refKey) = false) {w : Option AV} (hf : fieldIs des x w) (ne : x ≠ y) : fieldIs (putL y hsh (.str y t) u des) x w := by
  cases w with
  | none => unfold fieldIs at hf ⊢; simp only at hf ⊢; rw [getL_put _ hr, if_neg ne]; exact hf
  | some w => unfold fieldIs at hf ⊢; simp only at hf ⊢; obtain ⟨u', h1, h2⟩ := hf; exact ⟨u', by rw [getL_put _ hr, if_neg ne]; exact h1, h2⟩
theorem fieldIs_self {y : Str} {hsh : Int} {t : Tok} {u : Value} {des : List DictEntry} (hr : des.any (·.refKey) = false) {v : AV} (hv : v.rep u) : fieldIs (putL y hsh (.str y t) u des) y (some v) :=
  ⟨u, by rw [getL_put _ hr, if_pos rfl], hv⟩


theorem any_of_getL {y : Str} {u : Value} {des : List DictEntry} (h : getL y des = some (some u)) : des.any (·.key.isStr y) = true := by
  unfold getL at h
  split at h
  · rename_i e he
    exact List.any_eq_true.mpr ⟨e, List.mem_of_find?_eq_some he, by simpa using List.find?_some he⟩
  · split at h <;> cases h

theorem put_cnt {y : Str} {hsh : Int} {k u : Value} {des : List DictEntry} {w : Option AV} {n : Nat} (hf : fieldIs des y w) (hn : des.length ≤ cnt w + n) : (putL y hsh k u des).length ≤ 1 + n := by
  cases w with
  | none => have := put_len (y := y) (hsh := hsh) (k := k) (v := u) des; simp only [cnt] at hn; (first | lia | omega)
  | some w =>
    obtain ⟨u', h1, _⟩ := hf
    have := put_len_same (y := y) (hsh := hsh) (k := k) (v := u) des (any_of_getL h1)
    simp only [cnt] at hn; (first | lia | omega)

theorem sd_put {h' : Heap} {d : Addr} {des : List DictEntry} {n : Nat} {v0 v1 v2 v3 : Option AV} {hsh : Int} {t : Tok} {k : Nat} (hk : k < 4) {v : AV} {u : Value} (hv : v.rep u) (hr : des.any (·.refKey) = false) (hl : des.length ≤ cnt v0 + cnt v1 + cnt v2 + cnt v3)
    (hf : ∀ k, k < 4 → fieldIs des (sName k) ((AObj.sd v0 v1 v2 v3).fld k)) (hx : ∀ x : Str, x ≠ "_node2info" → x ≠ "_ready_nodes" → x ≠ "_npassedout" → x ≠ "_nfinished" → getL x des = some none)
    (e : h'.get? d = some (dictOf (putL (sName k) hsh (.str (sName k) t) u des) n)) : ((AObj.sd v0 v1 v2 v3).setFld k v).at P h' d := by
  have h0 := hf 0 (by decide); have h1 := hf 1 (by decide); have h2 := hf 2 (by decide); have h3 := hf 3 (by decide)
  match k, hk with
  | 0, _ =>
    refine ⟨_, n, e, put_noref _ hr, ?_, fieldIs_self hr hv, fieldIs_put hr h1 (by decide), fieldIs_put hr h2 (by decide), fieldIs_put hr h3 (by decide), fun x a b c d => ?_⟩
    · have := put_cnt (hsh := hsh) (k := .str (sName 0) t) (u := u) (n := cnt v1 + cnt v2 + cnt v3) h0 (by simp only [AObj.fld]; (first | lia | omega))
      rw [show cnt (some v) = 1 from rfl]; (first | lia | omega)
    · rw [getL_put _ hr, if_neg (by exact a)]; exact hx x a b c d
  | 1, _ =>
    refine ⟨_, n, e, put_noref _ hr, ?_, fieldIs_put hr h0 (by decide), fieldIs_self hr hv, fieldIs_put hr h2 (by decide), fieldIs_put hr h3 (by decide), fun x a b c d => ?_⟩
    · have := put_cnt (hsh := hsh) (k := .str (sName 1) t) (u := u) (n := cnt v0 + cnt v2 + cnt v3) h1 (by simp only [AObj.fld]; (first | lia | omega))
      rw [show cnt (some v) = 1 from rfl]; (first | lia | omega)
    · rw [getL_put _ hr, if_neg (by exact b)]; exact hx x a b c d
  | 2, _ =>
    refine ⟨_, n, e, put_noref _ hr, ?_, fieldIs_put hr h0 (by decide), fieldIs_put hr h1 (by decide), fieldIs_self hr hv, fieldIs_put hr h3 (by decide), fun x a b c d => ?_⟩
    · have := put_cnt (hsh := hsh) (k := .str (sName 2) t) (u := u) (n := cnt v0 + cnt v1 + cnt v3) h2 (by simp only [AObj.fld]; (first | lia | omega))
      rw [show cnt (some v) = 1 from rfl]; (first | lia | omega)
    · rw [getL_put _ hr, if_neg (by exact c)]; exact hx x a b c d
  | 3, _ =>
    refine ⟨_, n, e, put_noref _ hr, ?_, fieldIs_put hr h0 (by decide), fieldIs_put hr h1 (by decide), fieldIs_put hr h2 (by decide), fieldIs_self hr hv, fun x a b c d => ?_⟩
    · have := put_cnt (hsh := hsh) (k := .str (sName 3) t) (u := u) (n := cnt v0 + cnt v1 + cnt v2) h3 (by simp only [AObj.fld]; (first | lia | omega))
      rw [show cnt (some v) = 1 from rfl]; (first | lia | omega)
    · rw [getL_put _ hr, if_neg (by exact d)]; exact hx x a b c d

theorem frozen_setFld {o : AObj} {k : Nat} {v : AV} (h : o.frozen = false) : (o.setFld k v).frozen = false := by
  cases o <;> try exact h
  match k with
  | 0 => rfl
  | 1 => rfl
  | 2 => rfl
  | _ + 3 => rfl

theorem op_setS {F : FX} (hP : POk P) (O : FOk P D F) {k : Nat} (hk : k < 4) {a b : AV} {u v : Value} (ha : a.rep u) (hb : b.rep v) : USim P D F (setAttr u (sName k) v) (opSetS k a b) := by
  intro σ s Q E R h
  cases a <;> try exact h.elim
  rename_i a
  subst ha
  obtain ⟨d, o, h1, h2, ⟨v0, v1, v2, v3, rfl⟩, h4⟩ := h
  obtain ⟨des, n, I, e, hr, hl, hf, hx⟩ := inst_at R h1 h2
  obtain ⟨m, Fm, hm⟩ := R.fr
  have X := O.kin R
  have hdL : d ≠ F.L := (R.free h2 rfl).L
  obtain ⟨pre, post, hsp, q1, q2⟩ := nodup_split (allBut_nodup F.L s.heap) (mem_all hdL e)
  have N := news_all F.L s.heap
  rw [hsp] at N
  refine set_plain X I hP.sSet ?_
  refine osa_dict (s := { s with toks := s.toks + 1 }) Fm N X I rfl hP.sOver (hP.sGet k hk).2.2 hP.sDict ?_ q1 q2 (putName_dict _ _ _ _ _ _) rfl ?_ fun h' F' N' => ?_
  · unfold lookIn
    show (match des.toArray.toList.find? _ with | some e => some (some e.val) | none => if des.toArray.toList.any _ then none else some none).isSome = true
    split
    · rfl
    · rename_i hn
      have : (des.toArray.toList.any fun x => x.refKey) = false := hr
      rw [this]; rfl
  · have := put_len (y := sName k) (hsh := PyData.keyHash P.w.params (sName k)) (k := .str (sName k) (s.toks + 1)) (v := v) des
    have c0 : cnt v0 ≤ 1 := by cases v0 <;> simp [cnt]
    have c1 : cnt v1 ≤ 1 := by cases v1 <;> simp [cnt]
    have c2 : cnt v2 ≤ 1 := by cases v2 <;> simp [cnt]
    have c3 : cnt v3 ≤ 1 := by cases v3 <;> simp [cnt]
    simp only []
    (first | lia | omega)
  · exact ⟨_, R.turned O (t := s.toks + 1 + 1) hm F' hsp N' h2 rfl (frozen_setFld rfl) (fun e' => sd_put hk hb hr hl hf hx e'), h4⟩

-- records
theorem rcd_at {F : FX} {σ : St} {s : Shared} (R : Rel P D F σ s) {a d : Addr} {vs : List (Option AV)} {v0 v1 v2 v3 : Option AV} (ha : σ.hp a = some (.rcd d vs)) (hd : σ.hp d = some (.sd v0 v1 v2 v3)) :
    ∃ us : List (Option Value), ∃ od, InstAt s.heap a { instObj P.cN d with slots := us.toArray } P.cN (some od) ∧ OReps vs us ∧ s.heap.get? a = some { instObj P.cN d with slots := us.toArray } := by
  obtain ⟨des, n, e, _⟩ := (R.hp d _ hd).1
  obtain ⟨us, ea, r⟩ := (R.hp a _ ha).1
  exact ⟨us, _, ⟨ea, rfl, rfl, e⟩, r, ea⟩
theorem OReps.get : ∀ {l : List (Option AV)} {vs : List (Option Value)} (i : Nat) {a : AV}, OReps l vs → l[i]? = some (some a) → ∃ v, vs[i]? = some (some v) ∧ a.rep v
  | [], [], _, _, _, h => by simp at h
  | none :: l, v :: vs, 0, b, _, e => by simp at e
  | some a :: l, v :: vs, 0, b, ⟨⟨u, h1, h2⟩, _⟩, e => by simp at e; subst e h1; exact ⟨u, rfl, h2⟩
  | none :: l, v :: vs, i + 1, b, ⟨_, r⟩, e => by simpa using OReps.get i r (by simpa using e)
  | some a :: l, v :: vs, i + 1, b, ⟨_, r⟩, e => by simpa using OReps.get i r (by simpa using e)
  | [], _ :: _, _, _, h, _ => h.elim
  | none :: _, [], _, _, h, _ => h.elim
  | some _ :: _, [], _, _, h, _ => h.elim
theorem OReps.length : ∀ {l : List (Option AV)} {vs : List (Option Value)}, OReps l vs → l.length = vs.length
  | [], [], _ => rfl
  | none :: _, _ :: _, ⟨_, h⟩ => congrArg (· + 1) (OReps.length h)
  | some _ :: _, _ :: _, ⟨_, h⟩ => congrArg (· + 1) (OReps.length h)
  | [], _ :: _, h => h.elim
  | none :: _, [], h => h.elim
  | some _ :: _, [], h => h.elim
theorem OReps.set : ∀ {l : List (Option AV)} {vs : List (Option Value)} (n : Nat) {a : AV} {v : Value}, OReps l vs → a.rep v → OReps (l.set n (some a)) (vs.set n (some v))
  | [], [], _, _, _, _, _ => trivial
  | none :: _, _ :: _, 0, _, _, ⟨_, r⟩, q => ⟨⟨_, rfl, q⟩, r⟩
  | some _ :: _, _ :: _, 0, _, _, ⟨_, r⟩, q => ⟨⟨_, rfl, q⟩, r⟩
  | none :: _, _ :: _, n + 1, _, _, ⟨h, r⟩, q => ⟨h, OReps.set n r q⟩
  | some _ :: _, _ :: _, n + 1, _, _, ⟨h, r⟩, q => ⟨h, OReps.set n r q⟩
  | [], _ :: _, _, _, _, h, _ => h.elim
  | none :: _, [], _, _, _, h, _ => h.elim
  | some _ :: _, [], _, _, _, h, _ => h.elim
theorem OReps.grow : ∀ {l : List (Option AV)} {vs : List (Option Value)} (k : Nat), OReps l vs → OReps (l ++ List.replicate k none) (vs ++ List.replicate k none)
  | [], [], 0, _ => trivial
  | [], [], k + 1, _ => ⟨rfl, OReps.grow (l := []) (vs := []) k trivial⟩
  | none :: _, _ :: _, k, ⟨h, r⟩ => ⟨h, OReps.grow k r⟩
  | some _ :: _, _ :: _, k, ⟨h, r⟩ => ⟨h, OReps.grow k r⟩
  | [], _ :: _, _, h => h.elim
  | none :: _, [], _, h => h.elim
  | some _ :: _, [], _, h => h.elim

noncomputable def isSd : Option AObj → Prop
  | some (.sd _ _ _ _) => True
  | _ => False
noncomputable def opAttrN (k : Nat) : AV → EP
  | .ref a => fun Q _ σ => ∃ d vs v, σ.hp a = some (.rcd d vs) ∧ isSd (σ.hp d) ∧ vs[k]? = some (some v) ∧ Q v σ
  | _ => fun _ _ _ => False
theorem op_attrN {F : FX} (hP : POk P) (O : FOk P D F) {k : Nat} (hk : k < 3) {a : AV} {u : Value} (ha : a.rep u) {b : Bool} : OpSim P D F (getAttr u (nName k) b) (opAttrN k a) := by
  intro σ s Q E R h
  cases a <;> try exact h.elim
  subst ha
  obtain ⟨d, vs, v, h1, h2, h3, h4⟩ := h
  unfold isSd at h2
  split at h2 <;> try exact h2.elim
  rename_i e2
  obtain ⟨us, od, I, r, ea⟩ := rcd_at R h1 e2
  obtain ⟨u', g1, g2⟩ := r.get k h3
  obtain ⟨m, Fm⟩ := R.frG O
  obtain ⟨p, p1, p2, p3, p4, p5, _⟩ := hP.nSlot k hk
  refine get_slot Fm O.X I p1 hP.nCls p2 p3 p4 p5 ?_ (rep_handed g2) ⟨v, σ, g2, R.toks, h4⟩
  simp [g1]
noncomputable def opSetN (k : Nat) : AV → AV → SP
  | .ref a, v => fun Q _ σ => ∃ d vs, σ.hp a = some (.rcd d vs) ∧ isSd (σ.hp d) ∧ Q .next ⟨σ.loc, upd σ.hp a (.rcd d ((vs ++ List.replicate (k + 1 - vs.length) none).set k (some v)))⟩
  | _, _ => fun _ _ _ => False
theorem op_setN {F : FX} (hP : POk P) (O : FOk P D F) {k : Nat} (hk : k < 3) {a b : AV} {u v : Value} (ha : a.rep u) (hb : b.rep v) : USim P D F (setAttr u (nName k) v) (opSetN k a b) := by
  intro σ s Q E R h
  cases a <;> try exact h.elim
  rename_i a
  subst ha
  obtain ⟨d, vs, h1, h2, h4⟩ := h
  unfold isSd at h2
  split at h2 <;> try exact h2.elim
  rename_i e2
  obtain ⟨us, od, I, r, ea⟩ := rcd_at R h1 e2
  obtain ⟨p, p1, p2, p3, p4, p5, p6, p7⟩ := hP.nSlot k hk
  obtain ⟨m, Fm, hm⟩ := R.fr
  have X := O.kin R
  have haL : a ≠ F.L := (R.free h1 rfl).L
  obtain ⟨pre, post, hsp, q1, q2⟩ := nodup_split (allBut_nodup F.L s.heap) (mem_all haL ea)
  have N := news_all F.L s.heap
  rw [hsp] at N
  refine set_plain X I hP.nSet ?_
  refine osa_descr (s := { s with toks := s.toks + 1 }) KF.slot_mset X I hP.nOver p6 p7 ?_
  refine slot_set (s := { s with toks := s.toks + 1 }) (p := p) (i := k) Fm N X I p5 (by (first | lia | omega)) q1 q2 rfl rfl fun h' F' N' => ?_
  refine ⟨_, R.turned O (t := s.toks + 1) (o' := .rcd d ((vs ++ List.replicate (k + 1 - vs.length) none).set k (some b))) hm F' hsp N' h1 rfl rfl (fun e' => ⟨(us ++ List.replicate (k + 1 - us.length) none).set k (some v), e'.trans ?_, ?_⟩), h4⟩
  · simp only [List.size_toArray, Array.replicate, List.append_toArray, List.setIfInBounds_toArray]
  · rw [r.length]; exact (r.grow _).set k hb

end
end
section
section
variable {P : PC} {D : FD}

noncomputable abbrev RU (P : PC) (D : FD) (F : FX) (Q : Fl → St → Prop) : Unit → Shared → Prop := fun _ s' => ∃ σ', Rel P D F σ' s' ∧ Q .next σ'
noncomputable def SimA (P : PC) (D : FD) (t : Expr) (f : AV → SP) : Prop := ∀ F, FOk P D F → ∀ v u, v.rep u → ∀ σ s Q E, Rel P D F σ s → f v Q E σ → wpAny (model P.prog P.w) F.A (assign t F.env u) (RU P D F Q) (RX P D F E) s
noncomputable def aName (i : Nat) (v : AV) : SP := fun Q _ σ => Q .next ⟨setv σ.loc i v, σ.hp⟩

noncomputable def notCap : VK → Bool
  | .cap => false
  | _ => true

theorem store_sim {F : FX} (O : FOk P D F) {x : Str} {i : Nat} {k : VK} (hi : D.vars[i]? = some (x, k)) (hk : notCap k = true) {v : AV} {u : Value} (hv : v.rep u) {σ : St} {s : Shared} {Q : Fl → St → Prop} {E : Ex → St → Prop} (R : Rel P D F σ s) (h : aName i v Q E σ) :
    wpAny (model P.prog P.w) F.A (storeName F.env x u) (RU P D F Q) (RX P D F E) s := by
  have hm := List.mem_of_getElem? hi
  cases k with
  | loc =>
    obtain ⟨m, hn, hl⟩ := R.ns
    refine wpAny_storeName_local (O.loc x hm) (by rw [O.locals]; exact hn) (fun h' h1 h2 => ⟨_, R.setLoc O hi hv hl (by rw [← O.locals]; exact h1) (by rw [← O.locals]; exact h2), h⟩) ?_
    rw [O.fn]; rfl
  | cell =>
    obtain ⟨hk, c, hc, _⟩ := O.cell x hm
    obtain ⟨_, u', hu, hq⟩ := R.cell i x hi c hc
    exact wpAny_storeName_cell O.fn hk hc hu fun h' h1 h2 => ⟨_, R.setCell O hi hv hc h1 h2, h⟩
  | cap => cases hk

theorem sim_aName {x : Str} {pos : Pos} {i : Nat} {k : VK} (hi : D.vars[i]? = some (x, k)) (hk : notCap k = true := by rfl) : SimA P D (.Name x pos) (aName i) :=
  fun _ O _ _ hv _ _ _ _ R h => wpAny_assign_Name (store_sim O hi hk hv R h)

noncomputable def setvs : (Nat → Option AV) → List Nat → List AV → (Nat → Option AV)
  | l, i :: is, v :: vs => setvs (setv l i v) is vs
  | l, _, _ => l
noncomputable def NamesAre (D : FD) : List Expr → List Nat → Prop
  | [], [] => True
  | .Name x _ :: ts, i :: is => (∃ k, D.vars[i]? = some (x, k) ∧ notCap k = true) ∧ NamesAre D ts is
  | _, _ => False

noncomputable def aTuple (is : List Nat) : AV → SP
  | .ref a => fun Q _ σ => ∃ vs, σ.hp a = some (.tup vs) ∧ vs.length = is.length ∧ Q .next ⟨setvs σ.loc is vs, σ.hp⟩
  | _ => fun _ _ _ => False
-- statements
noncomputable def sAssign (p : EP) (f : AV → SP) : SP := fun Q E σ => p (fun v σ' => f v Q E σ') E σ
theorem flow_next {F : FX} {Q : Fl → St → Prop} {s : Shared} (h : ∃ σ', Rel P D F σ' s ∧ Q .next σ') : RF P D F Q .next s := let ⟨σ', R, q⟩ := h; ⟨.next, σ', rfl, R, q⟩

theorem sim_assign {t value : Expr} {pos : Pos} {p : EP} {f : AV → SP} (h : SimE P D value p) (ht : SimA P D t f)
    (he : ∀ env, (assignEach [t] env).map (·.2) = [assign t env] := by intro _; rfl) (hs : ∀ env, swapsWithSole [t] value pos.line env = pure false := by intro _; rfl) (hw : ∀ env, swappedStores [t] value env = pure none := by intro _; rfl) :
    SimS P D (.Assign [t] value pos) (sAssign p f) := by
  intro F O σ s Q E R hp
  refine wpAny_Assign_stores (wpAny_mono (h F O σ s _ E R hp) ?_ fun _ _ x => x) (hs _) (hw _)
  rintro u s₁ ⟨v, σ₁, hv, R₁, h₁⟩
  rw [he]
  exact wpAny_mono (ht F O v u hv σ₁ s₁ Q E R₁ h₁) (fun _ _ x => flow_next x) fun _ _ x => x
theorem sim_assign2 {t₁ t₂ value : Expr} {pos : Pos} {p : EP} {f g : AV → SP} (h : SimE P D value p) (h1 : SimA P D t₁ f) (h2 : SimA P D t₂ g)
    (he : ∀ env, (assignEach [t₁, t₂] env).map (·.2) = [assign t₁ env, assign t₂ env] := by intro _; rfl) (hw : ∀ env, swappedStores [t₁, t₂] value env = pure none := by intro _; rfl) :
    SimS P D (.Assign [t₁, t₂] value pos) (sAssign p fun v Q E σ => f v (fun _ σ' => g v Q E σ') E σ) := by
  intro F O σ s Q E R hp
  refine wpAny_Assign_two (wpAny_mono (h F O σ s _ E R hp) ?_ fun _ _ x => x) (he _) (hw _)
  rintro u s₁ ⟨v, σ₁, hv, R₁, hh⟩
  refine wpAny_mono (h1 F O v u hv σ₁ s₁ _ E R₁ hh) ?_ fun _ _ x => x
  rintro _ s₂ ⟨σ₂, R₂, hh₂⟩
  exact wpAny_mono (h2 F O v u hv σ₂ s₂ Q E R₂ hh₂) (fun _ _ x => flow_next x) fun _ _ x => x

-- two names at once from a written pair: stored from behind
noncomputable def starE : Expr → Bool
  | .Starred .. => true
  | _ => false
noncomputable def aSwap (is : List Nat) (vs : List AV) : SP := fun Q _ σ => Q .next ⟨setvs σ.loc is.reverse vs.reverse, σ.hp⟩
noncomputable def sSwap (q : LP) (is : List Nat) : SP := fun Q E σ => q (fun vs σ' => vs.length = is.length ∧ ∀ a, σ'.hp a = none → Q .next ⟨setvs σ'.loc is.reverse vs.reverse, upd σ'.hp a (.tup vs)⟩) E σ

end
end
section
section
variable {P : PC} {D : FD}

noncomputable def storedA (es : List (Int × AV)) (k : Int) (v : AV) : List (Int × AV) :=
  if es.any (fun e => e.1 = k) then es.map (fun e => if e.1 = k then (e.1, v) else e) else es ++ [(k, v)]

noncomputable def opSetItem : AV → AV → AV → SP
  | .ref a, .int k, v => fun Q _ σ => (∃ l, σ.hp a = some (.list l) ∧ 0 ≤ k ∧ k < l.length ∧ Q .next ⟨σ.loc, upd σ.hp a (.list (l.set k.toNat v))⟩) ∨
      (∃ es ep, σ.hp a = some (.dict es ep) ∧ es.length < 1000000 ∧ ∀ ep', Q .next ⟨σ.loc, upd σ.hp a (.dict (storedA es k v) ep')⟩)
  | _, _, _ => fun _ _ _ => False

theorem turned_es (k : Int) {v : AV} {u : Value} (hv : v.rep u) : ∀ {es : List (Int × AV)} {kvs : List (Int × Value)}, dictEs es kvs → dictEs (es.map fun e => if e.1 = k then (e.1, v) else e) (kvs.map fun kv => if kv.1 = k then (kv.1, u) else kv)
  | [], [], _ => ⟨rfl, trivial⟩
  | e :: es, x :: kvs, ⟨h1, h2⟩ => by
    simp only [List.map_cons, List.cons.injEq] at h1
    obtain ⟨h5, h6⟩ := h2
    obtain ⟨g1, g2⟩ := turned_es k hv (es := es) (kvs := kvs) ⟨h1.2, h6⟩
    simp only [List.map_cons]
    rw [h1.1]
    by_cases hk : e.1 = k
    · rw [if_pos hk, if_pos hk]
      exact ⟨by simp only [List.map_cons]; rw [g1], hv, g2⟩
    · rw [if_neg hk, if_neg hk]
      exact ⟨by simp only [List.map_cons]; rw [g1, h1.1], h5, g2⟩
  | [], _ :: _, ⟨h1, _⟩ => by simp at h1
  | _ :: _, [], ⟨h1, _⟩ => by simp at h1
theorem stored_es {es : List (Int × AV)} {kvs : List (Int × Value)} (h : dictEs es kvs) (k : Int) {v : AV} {u : Value} (hv : v.rep u) : dictEs (storedA es k v) (stored kvs k u) := by
  have hany : es.any (fun e => e.1 = k) = kvs.any (fun kv => kv.1 = k) := by
    have h1 : es.any (fun e => decide (e.1 = k)) = (es.map (·.1)).any (fun x => decide (x = k)) := by rw [List.any_map]; rfl
    have h2 : kvs.any (fun e => decide (e.1 = k)) = (kvs.map (·.1)).any (fun x => decide (x = k)) := by rw [List.any_map]; rfl
    rw [h1, h2, h.1]
  unfold storedA stored
  rw [hany]
  split
  · exact turned_es k hv h
  · refine ⟨by rw [List.map_append, List.map_append, h.1]; rfl, ?_⟩
    rw [List.map_append, List.map_append]
    exact h.2.append ⟨hv, trivial⟩
theorem stored_len (es : List (Int × AV)) (k : Int) (v : AV) : (storedA es k v).length ≤ es.length + 1 := by
  unfold storedA
  split
  · simp
  · simp

theorem dictEs_len {es : List (Int × AV)} {kvs : List (Int × Value)} (h : dictEs es kvs) : kvs.length = es.length := by
  have := congrArg List.length h.1; simpa using this

theorem op_setItem {F : FX} {a b c : AV} {u v w : Value} (ha : a.rep u) (hb : b.rep v) (hc : c.rep w) : USim P D F (setItem u v w) (opSetItem a b c) := by
  intro σ s Q E R h
  cases a <;> cases b <;> try exact h.elim
  rename_i a k
  subst ha
  obtain ⟨t, rfl⟩ := hb
  rcases h with ⟨l, h1, h2, h3, h4⟩ | ⟨es, ep, h1, h2, h4⟩
  · obtain ⟨vs, n, e, r, hz⟩ := R.plain h1
    have hl := r.length
    refine ki_setAt e h2 (by (first | lia | omega)) (by rw [List.size_toArray]; (first | lia | omega)) ?_
    refine ⟨_, R.setList (vs' := vs.set k.toNat w) (t := s.toks) h1 e ?_ (r.set _ hc) (by rw [List.length_set]; exact hz), h4⟩
    simp
  · obtain ⟨kvs, hd, hes, hsys, hz⟩ := (R.hp a _ h1).1
    have hl := dictEs_len hes
    refine wpAny_setItem_pairs (knd := intKind P.prog P.w) (k := k) (by simp [intKind, Value.isInt]) hd.dictOf (fun h' hd' hs => ?_) (by rw [sizeLine_eq]; (first | lia | omega))
    obtain ⟨o, es', ep', q⟩ := hd'
    exact ⟨_, R.set (o' := .dict (storedA es k c) ep') h1 rfl hs rfl ⟨_, ⟨o, es', q⟩, stored_es hes k hc, hsys, by have := stored_len es k c; (first | lia | omega)⟩, h4 ep'⟩

noncomputable def aItem (o i : EP) (v : AV) : SP := fun Q E σ => o (fun ov σ₁ => i (fun iv σ₂ => opSetItem ov iv v Q E σ₂) E σ₁) E σ
theorem sim_aItem {o i : Expr} {pos : Pos} {po pi : EP} (ho : SimE P D o po) (hi : SimE P D i pi) : SimA P D (.Subscript o i pos) (aItem po pi) := by
  intro F O v u hv σ s Q E R h
  rw [arm_assign_Subscript]
  refine wpAny_bind (wpAny_holding (wpAny_mono (ho F O σ s _ E R h) ?_ fun _ _ x => x))
  rintro ov s₁ ⟨a, σ₁, ha, R₁, h₁⟩
  refine wpAny_bind (wpAny_holding (wpAny_mono (hi F O σ₁ s₁ _ E R₁ h₁) ?_ fun _ _ x => x))
  rintro iv s₂ ⟨b, σ₂, hb, R₂, h₂⟩
  refine wpAny_bind (wpAny_standAt (wpAny_bind (wpAny_holding (wpAny_mono (op_setItem ha hb hv σ₂ s₂ Q E R₂ h₂) ?_ fun _ _ x => x))))
  intro _ s₃ h₃
  exact wpAny_release h₃

noncomputable def aAttrS (k : Nat) (o : EP) (v : AV) : SP := fun Q E σ => o (fun ov σ₁ => opSetS k ov v Q E σ₁) E σ
noncomputable def aAttrN (k : Nat) (o : EP) (v : AV) : SP := fun Q E σ => o (fun ov σ₁ => opSetN k ov v Q E σ₁) E σ
theorem sim_aAttrS (hP : POk P) {o : Expr} {x : Str} {pos : Pos} {k : Nat} {po : EP} (ho : SimE P D o po) (hx : x = sName k := by rfl) (hk : k < 4 := by decide) : SimA P D (.Attribute o x pos) (aAttrS k po) := by
  intro F O v u hv σ s Q E R h
  rw [arm_assign_Attribute, hx]
  refine wpAny_bind (wpAny_holding (wpAny_mono (ho F O σ s _ E R h) ?_ fun _ _ x => x))
  rintro ov s₁ ⟨a, σ₁, ha, R₁, h₁⟩
  refine wpAny_bind (wpAny_standAt (wpAny_bind (wpAny_holding (wpAny_mono (op_setS hP O hk ha hv σ₁ s₁ Q E R₁ h₁) ?_ fun _ _ x => x))))
  intro _ s₃ h₃
  exact wpAny_release h₃
theorem sim_aAttrN (hP : POk P) {o : Expr} {x : Str} {pos : Pos} {k : Nat} {po : EP} (ho : SimE P D o po) (hx : x = nName k := by rfl) (hk : k < 3 := by decide) : SimA P D (.Attribute o x pos) (aAttrN k po) := by
  intro F O v u hv σ s Q E R h
  rw [arm_assign_Attribute, hx]
  refine wpAny_bind (wpAny_holding (wpAny_mono (ho F O σ s _ E R h) ?_ fun _ _ x => x))
  rintro ov s₁ ⟨a, σ₁, ha, R₁, h₁⟩
  refine wpAny_bind (wpAny_standAt (wpAny_bind (wpAny_holding (wpAny_mono (op_setN hP O hk ha hv σ₁ s₁ Q E R₁ h₁) ?_ fun _ _ x => x))))
  intro _ s₃ h₃
  exact wpAny_release h₃

-- reading attributes
noncomputable def notCall : Expr → Bool
  | .Call .. => false
  | _ => true
theorem sim_attrS (hP : POk P) {o : Expr} {x : Str} {pos : Pos} {k : Nat} {po : EP} (ho : SimE P D o po) (hx : x = sName k := by rfl) (hk : k < 4 := by decide)
    (he : ∀ env, eval (.Attribute o x pos) env = (do let v ← eval o env; standAt pos.atName; let r ← holding [v] (getAttr v x true); letTemporaryGo o v r; pure r) := by intro _; with_unfolding_all rfl) : SimE P D (.Attribute o x pos) (pUn (opAttrS k) po) := by
  intro F O σ s Q E R h
  refine Attribute_any_ (wpAny_mono (ho F O σ s _ E R h) ?_ fun _ _ x => x) (he _)
  rintro ov s₁ ⟨a, σ₁, ha, R₁, h₁⟩
  rw [hx]
  exact op_attrS hP O hk ha σ₁ s₁ Q E R₁ h₁
theorem sim_attrN (hP : POk P) {o : Expr} {x : Str} {pos : Pos} {k : Nat} {po : EP} (ho : SimE P D o po) (hx : x = nName k := by rfl) (hk : k < 3 := by decide)
    (he : ∀ env, eval (.Attribute o x pos) env = (do let v ← eval o env; standAt pos.atName; let r ← holding [v] (getAttr v x true); letTemporaryGo o v r; pure r) := by intro _; with_unfolding_all rfl) : SimE P D (.Attribute o x pos) (pUn (opAttrN k) po) := by
  intro F O σ s Q E R h
  refine Attribute_any_ (wpAny_mono (ho F O σ s _ E R h) ?_ fun _ _ x => x) (he _)
  rintro ov s₁ ⟨a, σ₁, ha, R₁, h₁⟩
  rw [hx]
  exact op_attrN hP O hk ha σ₁ s₁ Q E R₁ h₁

-- x op= e
noncomputable def iAdd : AV → AV → EP
  | .int x, .int y => fun Q _ σ => Q (.int (x + y)) σ
  | _, _ => fun _ _ _ => False
noncomputable def iMul : AV → AV → EP
  | .int x, .int y => fun Q _ σ => (x.natAbs < 2 ^ 60 ∨ y.natAbs < 2 ^ 60) ∧ Q (.int (x * y)) σ
  | _, _ => fun _ _ _ => False
theorem in_add {F : FX} {a b : AV} {u v : Value} (ha : a.rep u) (hb : b.rep v) : OpSim P D F (inplaceOp .Add u v) (iAdd a b) := by
  intro σ s Q E R h
  cases a <;> cases b <;> try exact h.elim
  obtain ⟨t, rfl⟩ := ha
  obtain ⟨t', rfl⟩ := hb
  exact iadd_int (.int R.toks h)
theorem in_sub {F : FX} {a b : AV} {u v : Value} (ha : a.rep u) (hb : b.rep v) : OpSim P D F (inplaceOp .Sub u v) (opSub a b) := by
  intro σ s Q E R h
  cases a <;> cases b <;> try exact h.elim
  obtain ⟨t, rfl⟩ := ha
  obtain ⟨t', rfl⟩ := hb
  exact isub_int (.int R.toks h)
noncomputable def sAugName (f : AV → AV → EP) (i : Nat) (q : EP) : SP := fun Q E σ => pName i (fun a σ₁ => q (fun b σ₂ => f a b (fun c σ₃ => aName i c Q E σ₃) E σ₂) E σ₁) E σ
theorem sim_augName {x : Str} {xp pos : Pos} {op : Operator} {value : Expr} {i : Nat} {k : VK} {f : AV → AV → EP} {q : EP} (hi : D.vars[i]? = some (x, k)) (hq : SimE P D value q)
    (hop : ∀ F, FOk P D F → ∀ a b u v, a.rep u → b.rep v → OpSim P D F (inplaceOp op u v) (f a b)) (hk : notCap k = true := by rfl) : SimS P D (.AugAssign (.Name x xp) op value pos) (sAugName f i q) := by
  rintro F O σ s Q E R ⟨a, hv, h⟩
  refine wpAny_AugAssign_Name ?_
  have hm := List.mem_of_getElem? hi
  have load : ∀ (Q' : Value → Shared → Prop), (∀ u, a.rep u → Q' u s) → wpAny (model P.prog P.w) F.A (loadName F.env x) Q' (RX P D F E) s := by
    intro Q' hQ
    cases k with
    | loc =>
      obtain ⟨m, hn, hl⟩ := R.ns
      obtain ⟨u, hu, hr⟩ := hl i x a hi hv
      exact wpAny_loadName_local O.fn (O.loc x hm) (by rw [O.locals]; exact hn) hu (hQ u hr)
    | cell =>
      obtain ⟨hk, c, hc, _⟩ := O.cell x hm
      obtain ⟨_, u, hu, hq⟩ := R.cell i x hi c hc
      obtain ⟨u', rfl, hr⟩ := hq a hv
      exact wpAny_loadName_cell O.fn hk hc hu (hQ u' hr)
    | cap => cases hk
  refine load _ fun u hu => ?_
  refine wpAny_mono (hq F O σ s _ E R h) ?_ fun _ _ x => x
  rintro w s₁ ⟨b, σ₁, hb, R₁, h₁⟩
  refine wpAny_mono (hop F O a b u w hu hb σ₁ s₁ _ E R₁ h₁) ?_ fun _ _ x => x
  rintro z s₂ ⟨c, σ₂, hc, R₂, h₂⟩
  exact wpAny_mono (store_sim O hi hk hc R₂ h₂) (fun _ _ x => flow_next x) fun _ _ x => x

noncomputable def sAugItem (f : AV → AV → EP) (o i q : EP) : SP := fun Q E σ => o (fun ov σ₁ => i (fun iv σ₂ => opItem ov iv (fun a σ₃ => q (fun b σ₄ => f a b (fun c σ₅ => opSetItem ov iv c Q E σ₅) E σ₄) E σ₃) E σ₂) E σ₁) E σ
noncomputable def sAugS (k : Nat) (f : AV → AV → EP) (o q : EP) : SP := fun Q E σ => o (fun ov σ₁ => opAttrS k ov (fun a σ₃ => q (fun b σ₄ => f a b (fun c σ₅ => opSetS k ov c Q E σ₅) E σ₄) E σ₃) E σ₁) E σ
theorem sim_augS (hP : POk P) {o value : Expr} {x : Str} {tp pos : Pos} {op : Operator} {k : Nat} {f : AV → AV → EP} {po q : EP} (ho : SimE P D o po) (hq : SimE P D value q)
    (hop : ∀ F, FOk P D F → ∀ a b u v, a.rep u → b.rep v → OpSim P D F (inplaceOp op u v) (f a b)) (hx : x = sName k := by rfl) (hk : k < 4 := by decide) : SimS P D (.AugAssign (.Attribute o x tp) op value pos) (sAugS k f po q) := by
  intro F O σ s Q E R h
  refine wpAny_AugAssign_AttributeAny (wpAny_mono (ho F O σ s _ E R h) ?_ fun _ _ x => x)
  rintro ov s₁ ⟨a, σ₁, ha, R₁, h₁⟩
  rw [hx]
  refine wpAny_mono (op_attrS hP O hk ha σ₁ s₁ _ E R₁ h₁) ?_ fun _ _ x => x
  rintro old s₃ ⟨c, σ₃, hc, R₃, h₃⟩
  refine wpAny_mono (hq F O σ₃ s₃ _ E R₃ h₃) ?_ fun _ _ x => x
  rintro w s₄ ⟨d, σ₄, hd, R₄, h₄⟩
  refine wpAny_mono (hop F O c d old w hc hd σ₄ s₄ _ E R₄ h₄) ?_ fun _ _ x => x
  rintro z s₅ ⟨e, σ₅, he, R₅, h₅⟩
  exact wpAny_mono (op_setS hP O hk ha he σ₅ s₅ Q E R₅ h₅) (fun _ _ x => flow_next x) fun _ _ x => x
noncomputable def sAugN (k : Nat) (f : AV → AV → EP) (o q : EP) : SP := fun Q E σ => o (fun ov σ₁ => opAttrN k ov (fun a σ₃ => q (fun b σ₄ => f a b (fun c σ₅ => opSetN k ov c Q E σ₅) E σ₄) E σ₃) E σ₁) E σ
theorem sim_augN (hP : POk P) {o value : Expr} {x : Str} {tp pos : Pos} {op : Operator} {k : Nat} {f : AV → AV → EP} {po q : EP} (ho : SimE P D o po) (hq : SimE P D value q)
    (hop : ∀ F, FOk P D F → ∀ a b u v, a.rep u → b.rep v → OpSim P D F (inplaceOp op u v) (f a b)) (hx : x = nName k := by rfl) (hk : k < 3 := by decide) : SimS P D (.AugAssign (.Attribute o x tp) op value pos) (sAugN k f po q) := by
  intro F O σ s Q E R h
  refine wpAny_AugAssign_AttributeAny (wpAny_mono (ho F O σ s _ E R h) ?_ fun _ _ x => x)
  rintro ov s₁ ⟨a, σ₁, ha, R₁, h₁⟩
  rw [hx]
  refine wpAny_mono (op_attrN hP O hk ha σ₁ s₁ _ E R₁ h₁) ?_ fun _ _ x => x
  rintro old s₃ ⟨c, σ₃, hc, R₃, h₃⟩
  refine wpAny_mono (hq F O σ₃ s₃ _ E R₃ h₃) ?_ fun _ _ x => x
  rintro w s₄ ⟨d, σ₄, hd, R₄, h₄⟩
  refine wpAny_mono (hop F O c d old w hc hd σ₄ s₄ _ E R₄ h₄) ?_ fun _ _ x => x
  rintro z s₅ ⟨e, σ₅, he, R₅, h₅⟩
  exact wpAny_mono (op_setN hP O hk ha he σ₅ s₅ Q E R₅ h₅) (fun _ _ x => flow_next x) fun _ _ x => x

-- blocks
noncomputable def sNil : SP := fun Q _ σ => Q .next σ
noncomputable def sSeq (p q : SP) : SP := fun Q E σ => p (fun fl σ' => match fl with | .next => q Q E σ' | fl => Q fl σ') E σ
noncomputable def sIf (t : TP) (p q : SP) : SP := fun Q E σ => t (fun b σ' => if b then p Q E σ' else q Q E σ') E σ
noncomputable def sRet (p : EP) : SP := fun Q E σ => p (fun v σ' => Q (.ret v) σ') E σ
noncomputable def sFlow (f : Fl) : SP := fun Q _ σ => Q f σ
noncomputable def sExpr (p : EP) : SP := fun Q E σ => p (fun _ σ' => Q .next σ') E σ
theorem sim_snil : SimSs P D [] sNil := fun _ _ σ _ _ _ R h => wpAny_execs_nil ⟨.next, σ, rfl, R, h⟩
theorem sim_seq {st : Stmt} {rest : List Stmt} {p q : SP} (h : SimS P D st p) (h' : SimSs P D rest q) : SimSs P D (st :: rest) (sSeq p q) := by
  intro F O σ s Q E R hp
  refine wpAny_execs_cons (wpAny_mono (h F O σ s _ E R hp) ?_ fun _ _ x => x)
  rintro f s₁ ⟨fl, σ₁, hf, R₁, h₁⟩
  cases fl with
  | next => subst hf; exact h' F O σ₁ s₁ Q E R₁ h₁
  | brk => subst hf; exact ⟨.brk, σ₁, rfl, R₁, h₁⟩
  | cont => subst hf; exact ⟨.cont, σ₁, rfl, R₁, h₁⟩
  | ret v => obtain ⟨u, rfl, hu⟩ := hf; exact ⟨.ret v, σ₁, ⟨u, rfl, hu⟩, R₁, h₁⟩
theorem sim_one {st : Stmt} {p : SP} (h : SimS P D st p) : SimSs P D [st] p := by
  intro F O σ s Q E R hp
  refine wpAny_execs_cons (wpAny_mono (h F O σ s _ E R hp) ?_ fun _ _ x => x)
  rintro f s₁ ⟨fl, σ₁, hf, R₁, h₁⟩
  cases fl with
  | next => subst hf; exact wpAny_execs_nil ⟨.next, σ₁, rfl, R₁, h₁⟩
  | brk => subst hf; exact ⟨.brk, σ₁, rfl, R₁, h₁⟩
  | cont => subst hf; exact ⟨.cont, σ₁, rfl, R₁, h₁⟩
  | ret v => obtain ⟨u, rfl, hu⟩ := hf; exact ⟨.ret v, σ₁, ⟨u, rfl, hu⟩, R₁, h₁⟩
theorem sim_sif {t : Expr} {a b : List Stmt} {pos : Pos} {pt : TP} {p q : SP} (ht : SimT P D t pt) (h : SimSs P D a p) (h' : SimSs P D b q) : SimS P D (.If t a b pos) (sIf pt p q) := by
  intro F O σ s Q E R hp
  refine wpAny_If (wpAny_mono (ht F O σ s _ E R hp) ?_ fun _ _ x => x)
  rintro b s₂ ⟨σ₂, R₂, h₂⟩
  cases b with
  | true => exact h F O σ₂ s₂ Q E R₂ h₂
  | false => exact h' F O σ₂ s₂ Q E R₂ h₂
theorem sim_ret {e : Expr} {pos : Pos} {p : EP} (h : SimE P D e p) : SimS P D (.Return (some e) pos) (sRet p) := by
  intro F O σ s Q E R hp
  exact wpAny_Return_some (wpAny_mono (h F O σ s _ E R hp) (fun u s₁ ⟨v, σ₁, hv, R₁, h₁⟩ => ⟨.ret v, σ₁, ⟨u, rfl, hv⟩, R₁, h₁⟩) fun _ _ x => x)
theorem sim_break {pos : Pos} : SimS P D (.Break pos) (sFlow .brk) := fun _ _ σ _ _ _ R h => wpAny_Break ⟨.brk, σ, rfl, R, h⟩
theorem sim_continue {pos : Pos} : SimS P D (.Continue pos) (sFlow .cont) := fun _ _ σ _ _ _ R h => wpAny_Continue ⟨.cont, σ, rfl, R, h⟩
theorem sim_expr {e : Expr} {pos : Pos} {p : EP} (h : SimE P D e p) (hs : ∀ env, swapsWith e none pos.line env = pure false := by intro _; rfl) : SimS P D (.Expr e pos) (sExpr p) := by
  intro F O σ s Q E R hp
  refine wpAny_Expr_any (wpAny_mono (h F O σ s _ E R hp) (fun u s₁ ⟨v, σ₁, hv, R₁, h₁⟩ => ⟨.next, σ₁, rfl, R₁, h₁⟩) fun _ _ x => x) ?_ (hs _)
  unfold interactive
  rw [O.fn]; rfl

end
end
section
section
variable {P : PC} {D : FD}

noncomputable def frs (F : FX) : List Addr := F.L :: F.outs.map (·.1)

theorem Rel.upSlots {F : FX} {σ : St} {s : Shared} (R : Rel P D F σ s) (O : FOk P D F) {h' : Heap} {X : List Addr} (hX : ∀ b ∈ X, Unt D F σ b)
    (h1 : ∀ b o, b ∉ X → b ∉ frs F → s.heap.get? b = some o → h'.get? b = some o) (h2 : s.heap.UpToSlots h') : Rel P D F σ { s with heap := h' } := by
  have offL : ∀ b, b ≠ F.L → b ∉ F.outs.map (·.1) → b ∉ frs F := fun b x y hm => by
    rcases List.mem_cons.mp hm with e | e
    · exact x e
    · exact y e
  refine ⟨?_, ?_, R.cap, ?_, ?_, ?_, R.gens, R.os⟩
  · obtain ⟨m, hm, q⟩ := R.ns
    exact ⟨m, h2.ns hm, q⟩
  · intro i x hi c hc
    obtain ⟨e1, u, ⟨o, ho, hd⟩, q⟩ := R.cell i x hi c hc
    obtain ⟨sl, e⟩ := h2 c o ho (fun vs hv => by rw [hd] at hv; cases hv)
    exact ⟨e1, u, ⟨_, e, hd⟩, q⟩
  · intro b o e
    refine h1 b o (fun hm => ?_) (offL b (fun q => ?_) fun hm => ?_) (R.keep b o e)
    · have := (hX b hm).1.g; rw [e] at this; cases this
    · rw [q, O.Lg] at e; cases e
    · obtain ⟨q, hq, rfl⟩ := List.mem_map.mp hm
      rw [(O.outsOk q hq).1] at e; cases e
  · intro q hq
    obtain ⟨sl, e⟩ := R.outs q hq
    obtain ⟨sl', e'⟩ := h2 _ _ e (O.outsOk q hq).2.1
    exact ⟨sl', e'⟩
  · intro a o e
    obtain ⟨x, y, z⟩ := R.hp a o e
    refine ⟨AObj.at_of x (fun ob eo => h1 a ob (fun hm => ?_) (offL a (fun q => ?_) fun hm => ?_) eo), y, z⟩
    · have := (hX a hm).2; rw [e] at this; cases this
    · cases hf : o.frozen with
      | false => exact (z hf).2.1 q
      | true => have := y hf; rw [q, O.kbL] at this; cases this
    · cases hf : o.frozen with
      | false => exact (z hf).2.2 hm
      | true =>
        have := y hf
        obtain ⟨q, hq, rfl⟩ := List.mem_map.mp hm
        rw [O.kbO hq] at this; cases this

theorem funFrames_of {F : FX} (O : FOk P D F) {σ : St} {s : Shared} (R : Rel P D F σ s) {X : List Addr} : ∀ {l : List Env}, (∀ e ∈ l, e ∈ F.fenv :: F.outer) → s.heap.FunFrames (hideAll s.heap (X ++ frs F)) l
  | [], _ => trivial
  | e :: l, h => by
    obtain ⟨hk, L, hf, hL⟩ := O.frs e (h e (List.mem_cons_self ..))
    have hmem : L ∈ frs F := by
      rcases hL with rfl | ⟨o, ho⟩
      · exact List.mem_cons_self ..
      · exact List.mem_cons_of_mem _ (List.mem_map.mpr ⟨_, ho, rfl⟩)
    refine ⟨hk, ?_, funFrames_of O R fun e' he' => h e' (List.mem_cons_of_mem _ he')⟩
    rcases hL with rfl | ⟨o, ho⟩
    · obtain ⟨m, ⟨oL, es, ep, h1, h2, _⟩, _⟩ := R.ns
      exact ⟨F.L, oL, hf, hideAll_none _ (List.mem_append_right _ hmem), h1, fun vs hv => by rw [h2] at hv; cases hv⟩
    · obtain ⟨sl, e'⟩ := R.outs _ ho
      exact ⟨L, _, hf, hideAll_none _ (List.mem_append_right _ hmem), e', (O.outsOk _ ho).2.1⟩

structure XFl (P : PC) (D : FD) (F : FX) (ex : Ex) (σ : St) (e : Value) (fl : Value) (s : Shared) : Prop where
  rel : Rel P D F σ s
  at_ : ∃ a oe vs a0 T oT ts, e = .ref a ∧ Unt D F σ a ∧ s.heap.get? a = some oe ∧ oe.cls = exCls P ex ∧ oe.data = .fields vs ∧ vs[0]? = some a0 ∧ vs[1]? = some (.ref T) ∧ T ≠ a ∧ Unt D F σ T ∧ s.heap.get? T = some oT ∧ oT.data = .fields ts ∧ ts[3]? = some fl

theorem XFl.x {F : FX} {ex : Ex} {σ : St} {e : Value} {s : Shared} (h : XFl P D F ex σ e (rawInt F.L) s) : XAt P D F ex σ e s := by
  obtain ⟨a, oe, vs, a0, T, oT, ts, h1, h2, h3, h4, h5, h6, h7, h8, h9, h10, h11, h12⟩ := h.at_
  exact ⟨h.rel, a, oe, vs, a0, h1, h2, h3, h4, h5, h6, .inr ⟨T, oT, ts, h7, h8, h9, h10, h11, .inr h12⟩⟩
theorem off_base {F : FX} (O : FOk P D F) {σ : St} {s : Shared} {h' : Heap} (R : Rel P D F σ s) (R' : Rel P D F σ { s with heap := h' }) {X : List Addr} {T : Addr} {oT : Obj} (hT : h'.get? T = some oT) (hd : ∃ ts, oT.data = .fields ts) (hX : ∀ b ∈ X, Unt D F σ b)
    (hn : (hideAll s.heap (X ++ frs F)).get? T = none) : Unt D F σ T := by
  by_cases hx : T ∈ X
  · exact hX T hx
  · by_cases hf : T ∈ frs F
    · exfalso
      obtain ⟨ts, hd⟩ := hd
      rcases List.mem_cons.mp hf with rfl | hm
      · obtain ⟨m, ⟨oL, es, ep, h1, h2, _⟩, _⟩ := R'.ns
        rw [hT] at h1; cases h1; rw [hd] at h2; cases h2
      · obtain ⟨q, hq, rfl⟩ := List.mem_map.mp hm
        obtain ⟨sl, e'⟩ := R'.outs q hq
        rw [hT] at e'; cases e'
        exact (O.outsOk q hq).2.1 ts hd
    · cases q : s.heap.get? T with
      | none => exact R.fresh q
      | some o =>
        rw [hideAll_get (X ++ frs F) q (fun hm => (List.mem_append.mp hm).elim hx hf)] at hn; cases hn

theorem note_sim {F : FX} (O : FOk P D F) (hfn : F.fenv = F.env ∧ F.env.frame = some F.L) {A : Around} (hA : A.frames = F.A.frames) {ex : Ex} {σ : St} {e : Value} {s : Shared} {Q : Unit → Shared → Prop} {E : Value → Shared → Prop} (x : XAt P D F ex σ e s)
    (h : ∀ h', XFl P D F ex σ e (rawInt F.L) { s with heap := h' } → Q () { s with heap := h' }) : wpAny (model P.prog P.w) A (noteFrame e F.env) Q E s := by
  obtain ⟨R, a, oe, vs, a0, rfl, ua, ha, hcls, hd, h0, htr⟩ := x
  have hfr : A.frames = some (F.env :: F.outer) := by rw [hA, O.frames, hfn.1]
  have hff : ∀ e ∈ F.env :: F.outer, e ∈ F.fenv :: F.outer := by rw [hfn.1]; exact fun _ h => h
  have fin : ∀ (X : List Addr) (hX : ∀ b ∈ X, Unt D F σ b) (haX : a ∈ X) (h' : Heap), Heap.NotedW (hideAll s.heap (X ++ frs F)) (F.env :: F.outer) a (exCls P ex) a0 (rawInt F.L) s.heap h' → Q () { s with heap := h' } := by
    rintro X hX haX h' ⟨k1, k2, ⟨oe', vs', T, oT, ts, g1, ⟨g2, g3⟩, g4, g5, g6, g7, g8, g9, g10⟩, k4⟩
    have R' : Rel P D F σ { s with heap := h' } := R.upSlots O hX (fun b o h1 h2 e => k1 b o (hideAll_get _ e fun hm => (List.mem_append.mp hm).elim h1 h2)) k4
    exact h h' ⟨R', a, oe', vs', a0, T, oT, ts, rfl, ua, g1, g2, g4, g3, g5, g7, off_base O R R' g8 ⟨ts, g9⟩ hX g6, g8, g9, g10⟩
  have stays : ∀ X, (hideAll s.heap (X ++ frs F)).StaysIn s.heap := fun X b o e => of_hideAll _ e
  rcases htr with hv1 | ⟨T, oT, ts, hv1, hTa, uT, hT, hdT, h3⟩
  · unfold noteFrame
    simp only [hfn.2]
    refine wpAny_bind (wpAny_field ha hd hv1 ?_)
    rw [if_neg (show ¬ ((Value.none != Value.none) = true) from by simp)]
    refine wpAny_entryW hfr (funFrames_of O R hff) hfn.2 ha (stays [a]) (hideAll_none _ (by simp)) hd (Array.getElem?_eq_some_iff.mp hv1).1 h0 fun h' hN => ?_
    rw [hcls] at hN
    exact fin [a] (fun b hb => by rw [List.mem_singleton.mp hb]; exact ua) (by simp) h' hN
  · rcases h3 with h3 | h3
    · refine wpAny_noteFrame_onW (base := hideAll s.heap ([a, T] ++ frs F)) (cls := exCls P ex) (a0 := a0) hfr (funFrames_of O R hff) hfn.2 ⟨oe, vs, T, oT, ts, ha, ⟨hcls, h0⟩, hd, hv1, hideAll_none _ (by simp), hTa, hT, hdT, h3⟩ (stays _) (hideAll_none _ (by simp)) fun h' hN => ?_
      exact fin [a, T] (fun b hb => by
        rcases List.mem_cons.mp hb with rfl | hb
        · exact ua
        · rw [List.mem_singleton.mp hb]; exact uT) (by simp) h' hN
    · refine wpAny_noteFrame_againW (base := hideAll s.heap ([a, T] ++ frs F)) (cls := exCls P ex) (a0 := a0) hfn.2 ⟨oe, vs, T, oT, ts, ha, ⟨hcls, h0⟩, hd, hv1, hideAll_none _ (by simp), hTa, hT, hdT, h3⟩ ?_
      have := h s.heap ⟨R, a, oe, vs, a0, T, oT, ts, rfl, ua, ha, hcls, hd, h0, hv1, hTa, uT, hT, hdT, h3⟩
      exact this

theorem flight_sim {F : FX} (O : FOk P D F) {A : Around} {ex : Ex} {σ : St} {e fl : Value} {fo : Option Addr} {s : Shared} {Q : Unit → Shared → Prop} {E : Value → Shared → Prop} (x : XFl P D F ex σ e fl s)
    (h : ∀ h', XFl P D F ex σ e (fo.elim .none fun f => rawInt f) { s with heap := h' } → Q () { s with heap := h' }) : wpAny (model P.prog P.w) A (setFlight e fo) Q E s := by
  obtain ⟨R, a, oe, vs, a0, T, oT, ts, rfl, ua, ha, hcls, hd, h0, hv1, hTa, uT, hT, hdT, h3⟩ := x
  have hsz3 : 3 < ts.size := (Array.getElem?_eq_some_iff.mp h3).1
  unfold setFlight
  refine wpAny_bind (wpAny_field ha hd hv1 ?_)
  rw [if_pos (show (Value.ref T != Value.none) = true from by simp)]
  refine wpAny_setField hT hdT hsz3 (h _ ?_)
  have other : ∀ b, b ≠ T → (s.heap.update T (Obj.mapFields (·.setIfInBounds 3 (fo.elim Value.none fun f => rawInt f)))).get? b = s.heap.get? b := fun b hb => Heap.get?_update_other _ _ (Ne.symm hb)
  have R' : Rel P D F σ { s with heap := s.heap.update T (Obj.mapFields (·.setIfInBounds 3 (fo.elim Value.none fun f => rawInt f))) } :=
    R.change (t := s.toks) (fun b => b = T) (fun b e => e ▸ uT.1) (fun b o ne e => (other b ne).trans e) fun b o e => .inl ⟨e, fun q => by rw [q, uT.2] at e; cases e⟩
  exact ⟨R', a, oe, vs, a0, T, _, _, rfl, ua, (other a (Ne.symm hTa)).trans ha, hcls, hd, h0, hv1, hTa, uT, Heap.get?_update_self _ hT (Obj.isFreed_of_fields (Obj.data_mapFields hdT _)), Obj.data_mapFields hdT _, by simp [hsz3]⟩

theorem pass_sim {F : FX} (O : FOk P D F) (hfn : F.fenv = F.env ∧ F.env.frame = some F.L) {E : Ex → St → Prop} {e : Value} {s : Shared} (x : RX P D F E e s) :
    notedBy (model P.prog P.w) F.A F.env (cameBackBy (model P.prog P.w) F.A F.env (RX P D F E)) e s := by
  obtain ⟨ex, σ, x, he⟩ := x
  refine note_sim O hfn rfl x fun h' x' => ?_
  unfold cameBackBy
  obtain ⟨R', a, oe, vs, a0, T, oT, ts, e1, ua, ha, hcls, hd, h0, hv1, r⟩ := id x'
  subst e1
  refine wpAny_bind (wpAny_field ha hd hv1 ?_)
  rw [if_neg (show ¬ ((Value.ref T == Value.none) = true) from by simp)]
  refine flight_sim O x' fun h'' x'' => ?_
  rw [hfn.2] at x''
  exact ⟨ex, σ, XFl.x x'', he⟩

end
end
section
noncomputable def only (h : Heap) (p : Addr → Bool) : Heap := hideAll h ((List.range h.objs.size).filter fun b => !p b)
theorem only_get {h : Heap} {p : Addr → Bool} {b : Addr} {o : Obj} (e : h.get? b = some o) (hp : p b = true) : (only h p).get? b = some o :=
  hideAll_get _ e fun hm => by have := (List.mem_filter.mp hm).2; rw [hp] at this; cases this
theorem of_only {h : Heap} {p : Addr → Bool} {b : Addr} {o : Obj} (e : (only h p).get? b = some o) : h.get? b = some o ∧ p b = true := by
  have e' := of_hideAll _ e
  refine ⟨e', ?_⟩
  cases hp : p b with
  | true => rfl
  | false =>
    rw [only, hideAll_none _ (List.mem_filter.mpr ⟨List.mem_range.mpr (Heap.lt_size e'), by rw [hp]; rfl⟩)] at e; cases e
theorem only_none {h : Heap} {p : Addr → Bool} {b : Addr} (hp : p b = false) : (only h p).get? b = none := by
  cases e : (only h p).get? b with
  | none => rfl
  | some o => have := (of_only e).2; rw [hp] at this; cases this

noncomputable def guardF (F : FX) (h : Heap) (I : Addr) : FX := { F with g := only h fun b => (F.g.get? b).isSome || b == I }

section
variable {P : PC} {D : FD} {F : FX} {σ : St} {s : Shared}

theorem prot_none {h : Heap} {I b : Addr} (h1 : F.g.get? b = none) (h2 : b ≠ I) : (guardF F h I).g.get? b = none := only_none (by rw [h1]; simpa using h2)

theorem FOk.prot (O : FOk P D F) (R : Rel P D F σ s) {I : Addr} (u : Unt D F σ I) : FOk P D (guardF F s.heap I) where
  fn := O.fn
  locals := O.locals
  globals := O.globals
  builtins := O.builtins
  loc := O.loc
  cell := fun x hx => by
    obtain ⟨h1, c, h2, h3, h4, h5⟩ := O.cell x hx
    exact ⟨h1, c, h2, h3, prot_none h4 (u.1.cells x c hx h2), h5⟩
  cellInj := O.cellInj
  cap := O.cap
  glob := O.glob
  nd := O.nd
  X := O.X
  T := O.T
  kbg := fun b o e => only_get (R.keep b o (O.kbg b o e)) (by rw [O.kbg b o e]; rfl)
  frames := O.frames
  frs := O.frs
  outsOk := fun q hq => ⟨prot_none (O.outsOk q hq).1 fun e => u.1.outs (e ▸ List.mem_map_of_mem hq), (O.outsOk q hq).2⟩
  Lg := prot_none O.Lg (Ne.symm u.1.L)
  above := O.above
  depth := O.depth
  units := O.units
  hh := O.hh
  fnOk := O.fnOk

theorem Rel.prot (R : Rel P D F σ s) {I : Addr} (u : Unt D F σ I) : Rel P D (guardF F s.heap I) σ s where
  ns := R.ns
  cell := R.cell
  cap := fun i x v h1 h2 => by
    obtain ⟨c, w, h3, ⟨o, h4, h5⟩, h6⟩ := R.cap i x v h1 h2
    exact ⟨c, w, h3, ⟨o, only_get (R.keep c o h4) (by rw [h4]; rfl), h5⟩, h6⟩
  keep := fun b o e => (of_only e).1
  outs := R.outs
  hp := fun a o e => by
    obtain ⟨x, y, z⟩ := R.hp a o e
    exact ⟨x, y, fun hf => ⟨prot_none (z hf).1 (fun q => by rw [q, u.2] at e; cases e), (z hf).2⟩⟩
  gens := R.gens
  os := R.os

theorem Rel.unprot {σ' : St} {s' : Shared} (R : Rel P D F σ s) {I : Addr} {oI : Obj} (hI : s.heap.get? I = some oI) (hc : ∀ v, oI.data ≠ .cell v) (R' : Rel P D (guardF F s.heap I) σ' s') : Rel P D F σ' s' ∧ s'.heap.get? I = some oI := by
  have hg : ∀ b o, F.g.get? b = some o → (guardF F s.heap I).g.get? b = some o := fun b o e => only_get (R.keep b o e) (by rw [e]; rfl)
  refine ⟨⟨R'.ns, R'.cell, fun i x v h1 h2 => ?_, fun b o e => R'.keep b o (hg b o e), R'.outs, fun a o e => ?_, R'.gens, R'.os⟩, R'.keep I oI (only_get hI (by simp))⟩
  · obtain ⟨c, w, h3, ⟨o, h4, h5⟩, h6⟩ := R'.cap i x v h1 h2
    obtain ⟨h7, h8⟩ := of_only h4
    refine ⟨c, w, h3, ⟨o, ?_, h5⟩, h6⟩
    by_cases hcI : c = I
    · subst hcI; rw [hI] at h7; cases h7; exact absurd h5 (hc _)
    · cases e : F.g.get? c with
      | none => rw [e] at h8; simp [hcI] at h8
      | some o' => have := R.keep c o' e; rw [h7] at this; cases this; rfl
  · obtain ⟨x, y, z⟩ := R'.hp a o e
    refine ⟨x, y, fun hf => ⟨?_, (z hf).2⟩⟩
    cases e2 : F.g.get? a with
    | none => rfl
    | some o' => have := hg a o' e2; rw [(z hf).1] at this; cases this

structure ItOk (P : PC) (D : FD) (A : Around) (I : Addr) (items : List AV) (guard : St → Prop) (Ob : Nat → Obj → Prop) : Prop where
  noCell : ∀ i o, Ob i o → ∀ v, o.data ≠ .cell v
  self : ∀ i o (s : Shared) (Q : Value → Shared → Prop) E, Ob i o → s.heap.get? I = some o → Q (.ref I) s → wpAny (model P.prog P.w) A (pyIter (.ref I)) Q E s
  lets : ∀ i o t (u : Value) (s : Shared) (Q : Unit → Shared → Prop) E, Ob i o → s.heap.get? I = some o → Q () s → wpAny (model P.prog P.w) A (letOwnedTupleGo t (.ref I) u) Q E s
  next : ∀ F σ s i o v (Q : Option Value → Shared → Prop) E, F.A = A → Rel P D F σ s → guard σ → s.heap.get? I = some o → Ob i o → items[i]? = some v →
    (∀ u h' tk o', v.rep u → (∀ b ob, b ≠ I → s.heap.get? b = some ob → h'.get? b = some ob) → h'.get? I = some o' → Ob (i + 1) o' → Q (some u) { s with heap := h', toks := tk }) → wpAny (model P.prog P.w) A (pyNext (.ref I)) Q E s
  done : ∀ F σ s i o (Q : Option Value → Shared → Prop) E, F.A = A → Rel P D F σ s → guard σ → s.heap.get? I = some o → Ob i o → items[i]? = none →
    (∀ h' tk, (∀ b ob, b ≠ I → s.heap.get? b = some ob → h'.get? b = some ob) → Q none { s with heap := h', toks := tk }) → wpAny (model P.prog P.w) A (pyNext (.ref I)) Q E s

noncomputable abbrev IP := (List AV → (St → Prop) → St → Prop) → (Ex → St → Prop) → St → Prop
noncomputable def RI (P : PC) (D : FD) (F : FX) (Q : List AV → (St → Prop) → St → Prop) (it : Value) (s : Shared) : Prop :=
  ∃ I items guard Ob σ o, it = .ref I ∧ Rel P D F σ s ∧ Unt D F σ I ∧ s.heap.get? I = some o ∧ Ob 0 o ∧ (∀ D', ItOk P D' F.A I items guard Ob) ∧ Q items guard σ
noncomputable def SimI (P : PC) (D : FD) (e : Expr) (p : IP) : Prop := ∀ F, FOk P D F → ∀ σ s Q E, Rel P D F σ s → p Q E σ →
  wpAny (model P.prog P.w) F.A (eval e F.env) (fun x s₁ => wpAny (model P.prog P.w) F.A (pyIter x) (RI P D F Q) (RX P D F E) s₁) (RX P D F E) s

theorem Rel.skipI (R : Rel P D F σ s) {I : Addr} (u : Unt D F σ I) {h' : Heap} {t : Nat} (hk : ∀ b ob, b ≠ I → s.heap.get? b = some ob → h'.get? b = some ob) : Rel P D F σ { s with heap := h', toks := t } :=
  R.change (fun b => b = I) (fun b e => e ▸ u.1) hk fun a o e => .inl ⟨e, fun q => by rw [q, u.2] at e; cases e⟩

noncomputable def sFor (src : IP) (tgt : AV → SP) (body : SP) : SP := fun Q E σ => src (fun items guard σ₁ => ∃ J : Nat → St → Prop, J 0 σ₁ ∧ ∀ i σ', J i σ' → guard σ' ∧ (match items[i]? with
  | none => Q .next σ'
  | some v => tgt v (fun _ σ₂ => body (fun fl σ₃ => match fl with
      | .next => J (i + 1) σ₃
      | .cont => J (i + 1) σ₃
      | .brk => Q .next σ₃
      | .ret v => Q (.ret v) σ₃) E σ₂) E σ')) E σ

theorem RX.unprot {E : Ex → St → Prop} {e : Value} {s' : Shared} (R : Rel P D F σ s) {I : Addr} {oI : Obj} (hI : s.heap.get? I = some oI) (hc : ∀ v, oI.data ≠ .cell v) (x : RX P D (guardF F s.heap I) E e s') : RX P D F E e s' := by
  obtain ⟨ex, σ', ⟨R', a, oe, vs, a0, h1, h2, h3, h4, h5, h6, h7⟩, he⟩ := x
  have hg : ∀ b, (guardF F s.heap I).g.get? b = none → F.g.get? b = none := fun b e => by
    cases q : F.g.get? b with
    | none => rfl
    | some o => have := only_get (p := fun b => (F.g.get? b).isSome || b == I) (R.keep b o q) (by simp [q]); rw [show (only s.heap _).get? b = none from e] at this; cases this
  have hu : ∀ b, Unt D (guardF F s.heap I) σ' b → Unt D F σ' b := fun b u => ⟨⟨u.1.L, hg b u.1.g, u.1.outs, u.1.cells⟩, u.2⟩
  refine ⟨ex, σ', ⟨(R.unprot hI hc R').1, a, oe, vs, a0, h1, hu a h2, h3, h4, h5, h6, ?_⟩, he⟩
  rcases h7 with h7 | ⟨T, oT, ts, g1, g2, g3, g4⟩
  · exact .inl h7
  · exact .inr ⟨T, oT, ts, g1, g2, hu T g3, g4⟩

theorem sim_for {t iter : Expr} {body : List Stmt} {pos : Pos} {src : IP} {tgt : AV → SP} {pb : SP} (hi : SimI P D iter src) (ht : SimA P D t tgt) (hb : SimSs P D body pb)
    (hs : ∀ env x, foldedSetIterable iter env x = pure x := by intro _ _; rfl) (hfn : D.fn = true := by rfl) : SimS P D (.For t iter body [] pos) (sFor src tgt pb) := by
  intro F O σ s Q E R hp
  refine wpAny_For (wpAny_mono (hi F O σ s _ E R hp) ?_ fun _ _ x => x) (hs _)
  intro x s₁ h₁
  refine wpAny_mono h₁ ?_ fun _ _ x => x
  rintro it s₂ ⟨I, items, guard, Ob, σ₂, o₂, rfl, R₂, u₂, hI₂, ho₂, W', J, hJ0, hJ⟩
  have W := W' D
  have pass : ∀ e s', RX P D F E e s' → notedBy (model P.prog P.w) F.A F.env (fun e s' => match (Except.error e : Result) with | .ok f => RF P D F Q f s' | .error e => cameBackBy (model P.prog P.w) F.A F.env (RX P D F E) e s') e s' := fun e s' x => pass_sim O (O.fnOk hfn) x
  refine codeAny_forLoop_any (fun n s' => ∃ i σ' o, n = items.length - i ∧ i ≤ items.length ∧ Rel P D F σ' s' ∧ Unt D F σ' I ∧ s'.heap.get? I = some o ∧ Ob i o ∧ J i σ') ?_ _ ⟨0, σ₂, o₂, rfl, Nat.zero_le _, R₂, u₂, hI₂, ho₂, hJ0⟩
  rintro n s' ⟨i, σ', o, hn, hle, R', u', hI', ho', hJi⟩
  obtain ⟨hg, hm⟩ := hJ i σ' hJi
  cases hv : items[i]? with
  | none =>
    rw [hv] at hm
    refine W.done F σ' s' i o _ _ rfl R' hg hI' ho' hv fun h' tk hk => ?_
    exact wpAny_execs_nil ⟨.next, σ', rfl, R'.skipI u' hk, hm⟩
  | some v =>
    rw [hv] at hm
    refine W.next F σ' s' i o v _ _ rfl R' hg hI' ho' hv fun u h' tk o' hu hk hI'' ho'' => ?_
    have R'' := R'.skipI (t := tk) u' hk
    have nc := W.noCell _ _ ho''
    refine W.lets (i + 1) o' t u _ _ _ ho'' hI'' ?_
    have O' := O.prot R'' u'
    have Rp := R''.prot u'
    have toX : ∀ e s₃, RX P D (guardF F h' I) E e s₃ → notedBy (model P.prog P.w) F.A F.env (fun e s' => match (Except.error e : Result) with | .ok f => RF P D F Q f s' | .error e => cameBackBy (model P.prog P.w) F.A F.env (RX P D F E) e s') e s₃ := fun e s₃ x => pass e s₃ (RX.unprot R'' hI'' nc x)
    refine wpAny_mono (ht _ O' v u hu σ' _ _ E Rp hm) ?_ toX
    rintro _ s₃ ⟨σ₃, R₃, h₃⟩
    refine wpAny_mono (hb _ O' σ₃ s₃ _ E R₃ h₃) ?_ toX
    rintro f s₄ ⟨fl, σ₄, hf, R₄, h₄⟩
    obtain ⟨R₅, hI₅⟩ := R''.unprot hI'' nc R₄
    have hlt : i < items.length := by obtain ⟨h, _⟩ := List.getElem?_eq_some_iff.mp hv; exact h
    have u₅ : Unt D F σ₄ I := by
      refine ⟨u'.1, ?_⟩
      cases q : σ₄.hp I with
      | none => rfl
      | some oo =>
        obtain ⟨_, y, z⟩ := R₄.hp I oo q
        exfalso
        cases hfz : oo.frozen with
        | false => have := (z hfz).1; rw [show (guardF F h' I).g.get? I = some o' from only_get hI'' (by simp)] at this; cases this
        | true =>
          have hy := y hfz
          cases q2 : F.kb.get? I with
          | none => rw [show (guardF F h' I).kb.get? I = F.kb.get? I from rfl, q2] at hy; cases hy
          | some ob => have := O.kbg I ob q2; rw [u'.1.g] at this; cases this
    cases fl with
    | next => subst hf; exact ⟨items.length - (i + 1), by omega, i + 1, σ₄, o', rfl, by omega, R₅, u₅, hI₅, ho'', h₄⟩
    | cont => subst hf; exact ⟨items.length - (i + 1), by omega, i + 1, σ₄, o', rfl, by omega, R₅, u₅, hI₅, ho'', h₄⟩
    | brk => subst hf; exact ⟨.next, σ₄, rfl, R₅, h₄⟩
    | ret v => obtain ⟨w, rfl, hw⟩ := hf; exact ⟨.ret v, σ₄, ⟨w, rfl, hw⟩, R₅, h₄⟩

noncomputable def sWhile (t : TP) (body orelse : SP) : SP := fun Q E σ => ∃ J : Nat → St → Prop, (∃ n, J n σ) ∧ ∀ n σ', J n σ' → t (fun b σ₁ => if b then body (fun fl σ₂ => match fl with
      | .next => ∃ m, m < n ∧ J m σ₂
      | .cont => ∃ m, m < n ∧ J m σ₂
      | .brk => Q .next σ₂
      | .ret v => Q (.ret v) σ₂) E σ₁ else orelse Q E σ₁) E σ'
theorem sim_while {t : Expr} {body orelse : List Stmt} {pos : Pos} {pt : TP} {pb po : SP} (ht : SimT P D t pt) (hb : SimSs P D body pb) (ho : SimSs P D orelse po) (hfn : D.fn = true := by rfl) : SimS P D (.While t body orelse pos) (sWhile pt pb po) := by
  rintro F O σ s Q E R ⟨J, ⟨n₀, hJ0⟩, hJ⟩
  have pass : ∀ e s', RX P D F E e s' → notedBy (model P.prog P.w) F.A F.env (fun e s' => match (Except.error e : Result) with | .ok f => RF P D F Q f s' | .error e => cameBackBy (model P.prog P.w) F.A F.env (RX P D F E) e s') e s' := fun e s' x => pass_sim O (O.fnOk hfn) x
  refine wpAny_While (codeAny_whileLoop (fun n s' => ∃ σ', Rel P D F σ' s' ∧ J n σ') ?_ n₀ ⟨σ, R, hJ0⟩)
  rintro n s' ⟨σ', R', hJn⟩
  refine wpAny_mono (ht F O σ' s' _ E R' (hJ n σ' hJn)) ?_ pass
  rintro b s₁ ⟨σ₁, R₁, h₁⟩
  cases b with
  | true =>
    refine wpAny_mono (hb F O σ₁ s₁ _ E R₁ h₁) ?_ pass
    rintro f s₂ ⟨fl, σ₂, hf, R₂, h₂⟩
    cases fl with
    | next => subst hf; obtain ⟨m, hm, hj⟩ := h₂; exact ⟨m, hm, σ₂, R₂, hj⟩
    | cont => subst hf; obtain ⟨m, hm, hj⟩ := h₂; exact ⟨m, hm, σ₂, R₂, hj⟩
    | brk => subst hf; exact ⟨.next, σ₂, rfl, R₂, h₂⟩
    | ret v => obtain ⟨w, rfl, hw⟩ := hf; exact ⟨.ret v, σ₂, ⟨w, rfl, hw⟩, R₂, h₂⟩
  | false => exact wpAny_mono (ho F O σ₁ s₁ Q E R₁ h₁) (fun _ _ x => x) pass

end
end
section
noncomputable def kindsOk (D : FD) (sc : Scope) : Bool :=
  (D.vars.all fun x => match x.2 with
    | .loc => sc.names.lookup x.1 == some .local
    | .cell => sc.names.lookup x.1 == some .cell
    | .cap => false) && (D.globs.all fun x => sc.names.lookup x == some .globalImplicit) && (D.vars.map (·.1)).eraseDups.length == D.vars.length

structure FnOk (P : PC) (f : Addr) (fd : FuncData) (body : List Stmt) (D : FD) : Prop where
  body : fd.body = .stmts body
  clo : fd.closure = []
  glob : fd.globals = mainGlobals
  blt : fd.builtins = builtinsNs
  look : ∃ oc od sl, P.K.lookup f = some ⟨oc, od, .func fd, sl⟩
  code : codeIn P.K fd.code fd.qualname = true
  kind : fd.scope.kind = .function
  co : fd.scope.isCoroutine = false
  gen : fd.scope.isGenerator = false
  loc : ∀ x, (x, VK.loc) ∈ D.vars → fd.scope.names.lookup x = some .local
  cell : ∀ x, (x, VK.cell) ∈ D.vars → fd.scope.names.lookup x = some .cell
  cap : ∀ x, (x, VK.cap) ∉ D.vars
  globs : ∀ x ∈ D.globs, fd.scope.names.lookup x = some .globalImplicit
  nd : (D.vars.map (·.1)).Nodup
  fn : D.fn = true

section
variable {P : PC} {D' : FD} {F' : FX} {σ : St} {s : Shared}

noncomputable def curOuts (F' : FX) (h : Heap) : List (Addr × Obj) := (F'.L :: F'.outs.map (·.1)).filterMap fun a => (h.get? a).map (a, ·)
noncomputable def tracked (hp : AH) (b : Addr) : Bool := match hp b with
  | some o => !o.frozen
  | none => false
noncomputable def calleeG (F' : FX) (hp : AH) (h : Heap) : Heap := only h fun b => !tracked hp b && !(F'.L :: F'.outs.map (·.1)).contains b

theorem curOuts_mem {h : Heap} {q : Addr × Obj} : q ∈ curOuts F' h ↔ h.get? q.1 = some q.2 ∧ q.1 ∈ F'.L :: F'.outs.map (·.1) := by
  unfold curOuts
  rw [List.mem_filterMap]
  constructor
  · rintro ⟨a, ha, e⟩
    obtain ⟨o, ho, e2⟩ := Option.map_eq_some_iff.mp e
    subst e2
    exact ⟨ho, ha⟩
  · rintro ⟨h1, h2⟩
    exact ⟨q.1, h2, by rw [h1]; rfl⟩

theorem curOuts_keys (R : Rel P D' F' σ s) (a : Addr) : a ∈ (curOuts F' s.heap).map (·.1) ↔ a ∈ F'.L :: F'.outs.map (·.1) := by
  constructor
  · intro h
    obtain ⟨q, hq, rfl⟩ := List.mem_map.mp h
    exact (curOuts_mem.mp hq).2
  · intro h
    have : ∃ o, s.heap.get? a = some o := by
      rcases List.mem_cons.mp h with rfl | hm
      · obtain ⟨m, ⟨o, _, _, e, _⟩, _⟩ := R.ns; exact ⟨o, e⟩
      · obtain ⟨q, hq, rfl⟩ := List.mem_map.mp hm
        obtain ⟨sl, e⟩ := R.outs q hq; exact ⟨_, e⟩
    obtain ⟨o, e⟩ := this
    exact List.mem_map.mpr ⟨(a, o), curOuts_mem.mpr ⟨e, h⟩, rfl⟩

theorem calleeG_get {hp : AH} {h : Heap} {b : Addr} {o : Obj} (e : h.get? b = some o) (h1 : tracked hp b = false) (h2 : b ∉ F'.L :: F'.outs.map (·.1)) : (calleeG F' hp h).get? b = some o :=
  only_get e (by rw [h1]; simp only [Bool.not_false, Bool.true_and]; rw [Bool.not_eq_true', ← Bool.not_eq_true, List.contains_iff_mem]; exact h2)
theorem of_calleeG {hp : AH} {h : Heap} {b : Addr} {o : Obj} (e : (calleeG F' hp h).get? b = some o) : h.get? b = some o ∧ tracked hp b = false ∧ b ∉ F'.L :: F'.outs.map (·.1) := by
  obtain ⟨h1, h2⟩ := of_only e
  simp only [Bool.and_eq_true, Bool.not_eq_true'] at h2
  exact ⟨h1, h2.1, fun hm => by rw [List.contains_iff_mem.mpr hm] at h2; cases h2.2⟩

theorem g_sub (O' : FOk P D' F') (R : Rel P D' F' σ s) {b : Addr} {o : Obj} (e : F'.g.get? b = some o) : (calleeG F' σ.hp s.heap).get? b = some o := by
  refine calleeG_get (R.keep b o e) ?_ fun hm => ?_
  · unfold tracked
    cases q : σ.hp b with
    | none => rfl
    | some ob =>
      cases hf : ob.frozen with
      | true => simp [hf]
      | false => have := ((R.hp b ob q).2.2 hf).1; rw [e] at this; cases this
  · rcases List.mem_cons.mp hm with rfl | hm
    · rw [O'.Lg] at e; cases e
    · obtain ⟨q, hq, rfl⟩ := List.mem_map.mp hm
      rw [(O'.outsOk q hq).1] at e; cases e

theorem mem_of_lookup {x : Str} {c : Addr} : ∀ {l : List (Str × Addr)}, l.lookup x = some c → (x, c) ∈ l
  | [], h => by cases h
  | (y, d) :: l, h => by
    rw [List.lookup_cons] at h
    split at h
    · rename_i e; cases h; rw [eq_of_beq e]; exact List.mem_cons_self ..
    · exact List.mem_cons_of_mem _ (mem_of_lookup h)
theorem pairwise_inj {x y : Str} {c : Addr} : ∀ {l : List (Str × Addr)}, l.Pairwise (fun a b => a.2 ≠ b.2) → (x, c) ∈ l → (y, c) ∈ l → x = y
  | [], _, h, _ => by cases h
  | p :: l, hp, h1, h2 => by
    obtain ⟨g1, g2⟩ := List.pairwise_cons.mp hp
    rcases List.mem_cons.mp h1 with e1 | e1 <;> rcases List.mem_cons.mp h2 with e2 | e2
    · exact congrArg Prod.fst (e1.trans e2.symm)
    · exact absurd (by rw [← e1]) (g1 _ e2)
    · exact absurd (by rw [← e2]) (g1 _ e1)
    · exact pairwise_inj g2 e1 e2
noncomputable def calleeF (F' : FX) (A : Around) (hp : AH) (h : Heap) (L : Addr) (env : Env) : FX :=
  { A := A.deeper env, kb := F'.kb, fenv := env, outer := F'.fenv :: F'.outer, outs := curOuts F' h, g := calleeG F' hp h, L := L, env := env, os := F'.os }

theorem back_rel {A : Around} {L : Addr} {env : Env} {D : FD} {σ₁ : St} {s₁ : Shared} (O' : FOk P D' F') (R : Rel P D' F' σ s) (R₁ : Rel P D (calleeF F' A σ.hp s.heap L env) σ₁ s₁) : Rel P D' F' ⟨σ.loc, σ₁.hp⟩ s₁ where
  ns := by
    obtain ⟨m, ⟨o, es, ep, e, hd, r⟩, q⟩ := R.ns
    obtain ⟨sl, e'⟩ := R₁.outs (F'.L, o) (curOuts_mem.mpr ⟨e, List.mem_cons_self ..⟩)
    exact ⟨m, ⟨_, es, ep, e', hd, r⟩, q⟩
  cell := fun i x hi c hc => by
    obtain ⟨h1, u, ⟨o, e, hd⟩, q⟩ := R.cell i x hi c hc
    obtain ⟨_, c', hc', hcL, hcg, hco⟩ := O'.cell x (List.mem_of_getElem? hi)
    rw [hc] at hc'; cases hc'
    have hg : (calleeG F' σ.hp s.heap).get? c = some o := calleeG_get e (by unfold tracked; rw [h1]) fun hm => (List.mem_cons.mp hm).elim hcL hco
    refine ⟨?_, u, ⟨o, R₁.keep c o hg, hd⟩, q⟩
    show σ₁.hp c = none
    cases e2 : σ₁.hp c with
    | none => rfl
    | some ob =>
      exfalso
      obtain ⟨_, y, z⟩ := R₁.hp c ob e2
      cases hf : ob.frozen with
      | false => have := (z hf).1; rw [show (calleeF F' A σ.hp s.heap L env).g.get? c = some o from hg] at this; cases this
      | true =>
        have hy : (F'.kb.get? c).isSome = true := y hf
        cases q2 : F'.kb.get? c with
        | none => rw [q2] at hy; cases hy
        | some ob => have := O'.kbg c ob q2; rw [hcg] at this; cases this
  cap := R.cap
  keep := fun b o e => R₁.keep b o (g_sub O' R e)
  outs := fun q hq => by
    obtain ⟨sl, e⟩ := R.outs q hq
    obtain ⟨sl', e'⟩ := R₁.outs (q.1, { q.2 with slots := sl }) (curOuts_mem.mpr ⟨e, List.mem_cons_of_mem _ (List.mem_map.mpr ⟨q, hq, rfl⟩)⟩)
    exact ⟨sl', e'⟩
  hp := fun a o e => by
    obtain ⟨x, y, z⟩ := R₁.hp a o e
    refine ⟨x, y, fun hf => ?_⟩
    obtain ⟨z1, z2, z3⟩ := z hf
    have hno : a ∉ F'.L :: F'.outs.map (·.1) := fun hm => z3 ((curOuts_keys R a).mpr hm)
    refine ⟨?_, fun q => hno (q ▸ List.mem_cons_self ..), fun hm => hno (List.mem_cons_of_mem _ hm)⟩
    cases q : F'.g.get? a with
    | none => rfl
    | some o' => have := g_sub O' R q; rw [show (calleeG F' σ.hp s.heap).get? a = none from z1] at this; cases this
  gens := R₁.gens
  os := R₁.os

theorem back_unt {A : Around} {L : Addr} {env : Env} {D : FD} {σ₁ : St} (O' : FOk P D' F') (R : Rel P D' F' σ s) {a : Addr} (u : Unt D (calleeF F' A σ.hp s.heap L env) σ₁ a) : Unt D' F' ⟨σ.loc, σ₁.hp⟩ a := by
  have hno : a ∉ F'.L :: F'.outs.map (·.1) := fun hm => u.1.outs ((curOuts_keys R a).mpr hm)
  refine ⟨⟨fun q => hno (q ▸ List.mem_cons_self ..), ?_, fun hm => hno (List.mem_cons_of_mem _ hm), fun x c hx hc e => ?_⟩, u.2⟩
  · cases q : F'.g.get? a with
    | none => rfl
    | some o' => have := g_sub O' R q; rw [show (calleeG F' σ.hp s.heap).get? a = none from u.1.g] at this; cases this
  · obtain ⟨i, hi⟩ := List.mem_iff_getElem?.mp hx
    obtain ⟨h1, w, ⟨o, eo, hd⟩, q⟩ := R.cell i x hi c hc
    obtain ⟨_, c', hc', hcL, hcg, hco⟩ := O'.cell x hx
    rw [hc] at hc'; cases hc'
    have hg : (calleeG F' σ.hp s.heap).get? c = some o := calleeG_get eo (by unfold tracked; rw [h1]) fun hm => (List.mem_cons.mp hm).elim hcL hco
    have := u.1.g
    rw [← e, show (calleeF F' A σ.hp s.heap L env).g.get? c = some o from hg] at this; cases this

theorem back_x {A : Around} {L : Addr} {env : Env} {D : FD} {σ₁ : St} {s₁ : Shared} {ex : Ex} {e : Value} (O' : FOk P D' F') (R : Rel P D' F' σ s) (x : XFl P D (calleeF F' A σ.hp s.heap L env) ex σ₁ e .none s₁) : XAt P D' F' ex ⟨σ.loc, σ₁.hp⟩ e s₁ := by
  obtain ⟨R₁, a, oe, vs, a0, T, oT, ts, h1, h2, h3, h4, h5, h6, h7, h8, h9, h10, h11, h12⟩ := x
  exact ⟨back_rel O' R R₁, a, oe, vs, a0, h1, back_unt O' R h2, h3, h4, h5, h6, .inr ⟨T, oT, ts, h7, h8, back_unt O' R h9, h10, h11, .inl h12⟩⟩

noncomputable def retV : Fl → AV
  | .ret v => v
  | _ => .none

noncomputable def RC (P : PC) (D' : FD) (F' : FX) (loc : Nat → Option AV) (Q : AV → AH → Prop) (E : Ex → AH → Prop) (r : Result) (s' : Shared) : Prop := match r with
  | .ok (.ret v) => ∃ av hp', av.rep v ∧ Rel P D' F' ⟨loc, hp'⟩ s' ∧ Q av hp'
  | .ok _ => False
  | .error e => RX P D' F' (fun ex σ' => σ'.loc = loc ∧ E ex σ'.hp) e s'

theorem bindL_reverse {k : Str → Option NameKind} {x : Str} {v : Value} (hk : k x = some .local) : ∀ {l : List (Str × Value)}, (l.map (·.1)).Nodup → (x, v) ∈ l → ∀ m, bindL k l m x = some v := by
  have base : ∀ (l : List (Str × Value)) (m : Str → Option Value), x ∉ l.map (·.1) → bindL k l m x = m x := by
    intro l
    induction l with
    | nil => intro m _; rfl
    | cons p l ih =>
      intro m hx
      obtain ⟨n, w⟩ := p
      rw [List.map_cons, List.mem_cons, not_or] at hx
      show bindL k l _ x = m x
      rw [ih _ hx.2]
      split
      · exact if_neg hx.1
      · rfl
  intro l
  induction l with
  | nil => intro _ h; cases h
  | cons p l ih =>
    intro hn hm m
    obtain ⟨n, w⟩ := p
    rw [List.map_cons, List.nodup_cons] at hn
    rcases List.mem_cons.mp hm with e | hm
    · cases e
      show bindL k l (if k x = some .local then fun y => if y = x then some v else m y else m) x = some v
      rw [base l _ hn.1, if_pos hk]; exact if_pos rfl
    · exact ih hn.2 hm _
theorem bindC_reverse {k : Str → Option NameKind} {x : Str} {v : Value} (hk : k x ≠ some .local) : ∀ {l : List (Str × Value)}, (l.map (·.1)).Nodup → (x, v) ∈ l → ∀ m, bindC k l m x = some v := by
  have base : ∀ (l : List (Str × Value)) (m : Str → Option Value), x ∉ l.map (·.1) → bindC k l m x = m x := by
    intro l
    induction l with
    | nil => intro m _; rfl
    | cons p l ih =>
      intro m hx
      obtain ⟨n, w⟩ := p
      rw [List.map_cons, List.mem_cons, not_or] at hx
      show bindC k l _ x = m x
      rw [ih _ hx.2]
      split
      · rfl
      · exact if_neg hx.1
  intro l
  induction l with
  | nil => intro _ h; cases h
  | cons p l ih =>
    intro hn hm m
    obtain ⟨n, w⟩ := p
    rw [List.map_cons, List.nodup_cons] at hn
    rcases List.mem_cons.mp hm with e | hm
    · cases e
      show bindC k l (if k x = some .local then m else fun y => if y = x then some v else m y) x = some v
      rw [base l _ hn.1, if_neg hk]; exact if_pos rfl
    · exact ih hn.2 hm _


theorem zip_mem : ∀ {xs : List Str} {us : List Value} (i : Nat) {x : Str} {u : Value}, xs[i]? = some x → us[i]? = some u → (x, u) ∈ xs.zip us
  | [], _, _, _, _, h, _ => by simp at h
  | _ :: _, [], _, _, _, _, h => by simp at h
  | x :: xs, u :: us, 0, _, _, h1, h2 => by simp at h1 h2; subst h1 h2; exact List.mem_cons_self ..
  | x :: xs, u :: us, i + 1, _, _, h1, h2 => by rw [List.zip_cons_cons]; exact List.mem_cons_of_mem _ (zip_mem i (by simpa using h1) (by simpa using h2))
theorem zip_keys : ∀ {xs : List Str} {us : List Value}, xs.Nodup → ((xs.zip us).map (·.1)).Nodup ∧ ∀ x ∈ (xs.zip us).map (·.1), x ∈ xs
  | [], _, _ => ⟨by simp, by simp⟩
  | x :: xs, [], _ => ⟨by simp, by simp⟩
  | x :: xs, u :: us, h => by
    obtain ⟨h1, h2⟩ := List.nodup_cons.mp h
    obtain ⟨i1, i2⟩ := zip_keys (us := us) h2
    rw [List.zip_cons_cons, List.map_cons]
    refine ⟨List.nodup_cons.mpr ⟨fun hm => h1 (i2 x hm), i1⟩, fun y hy => ?_⟩
    rcases List.mem_cons.mp hy with rfl | hy
    · exact List.mem_cons_self ..
    · exact List.mem_cons_of_mem _ (i2 y hy)

theorem cells_some {x : Str} : ∀ (names : List (Str × NameKind)) (n : Nat) (acc : List (Str × Addr)), names.lookup x = some .cell → ((cellsFrom n names acc).lookup x).isSome = true := fun names n acc h => cellsFrom_some names n acc (.inl h)

theorem enter_sim {f : Addr} {fd : FuncData} {body : List Stmt} {D : FD} {pb : SP} (hF : FnOk P f fd body D) (hS : SimSs P D body pb) (O' : FOk P D' F') {A : Around} (hA : A.frames = F'.A.frames) (hd : A.depth ≤ F'.A.depth + 5) (hu : A.units ≤ F'.A.units + 20)
    (hh : D.calm = true → A.handled = none) (hdep : D.depth + 1 ≤ D'.depth) {vs : List AV} {us : List Value} (hr : Reps vs us) (hn : vs.length ≤ D.vars.length) (R : Rel P D' F' σ s) {Q : AV → AH → Prop} {E : Ex → AH → Prop}
    (hp : pb (fun fl σ₁ => Q (retV fl) σ₁.hp) (fun ex σ₁ => E ex σ₁.hp) ⟨fun i => vs[i]?, σ.hp⟩) :
    wpAny (model P.prog P.w) A.in1 (newFunctionEnv fd.scope fd.globals fd.closure ((D.vars.map (·.1)).zip us) (fd.qualname ++ ".<locals>.") (some f) fd.code none fd.builtins)
      (fun env s₂ => s₂.heap.NoLimit ∧ codeAny (model P.prog P.w) A (.func body env) (RC P D' F' σ.loc Q E) s₂) (fun e s' => RC P D' F' σ.loc Q E (.error e) s') s := by
  rw [hF.clo]
  have hkeys := zip_keys (us := us) hF.nd
  have kinds : ∀ x ∈ D.vars.map (·.1), fd.scope.names.lookup x = some .local ∨ fd.scope.names.lookup x = some .cell := fun x hx => by
    obtain ⟨⟨y, k⟩, hy, rfl⟩ := List.mem_map.mp hx
    cases k with
    | loc => exact .inl (hF.loc y hy)
    | cell => exact .inr (hF.cell y hy)
    | cap => exact absurd hy (hF.cap y)
  refine wpAny_newFunctionEnv_cells hF.kind (fun x hx => ?_) ?_
  · rcases kinds x.1 (hkeys.2 _ (List.mem_map_of_mem hx)) with h | h
    · exact .inl h
    · exact .inr ⟨h, cells_some _ _ _ h⟩
  rintro env rfl s' ⟨⟨⟨h', tk, rfl⟩, hns, hk, hfr⟩, hcell, hap, hab⟩
  have L' : Addr := s.heap.objs.size
  refine ⟨O'.T.nolimit.keeps fun b o e => hk b o (R.keep b o (O'.kbg b o e)), codeAny_func ?_⟩
  -- the frame
  have nofr : ∀ a, a ∈ F'.L :: F'.outs.map (·.1) → a < s.heap.objs.size := fun a ha => by
    obtain ⟨q, hq, rfl⟩ := List.mem_map.mp ((curOuts_keys R a).mpr ha)
    exact Heap.lt_size (curOuts_mem.mp hq).1
  have gLt : ∀ b o, (calleeG F' σ.hp s.heap).get? b = some o → b < s.heap.objs.size := fun b o e => Heap.lt_size (of_calleeG e).1
  have gNone : ∀ b, s.heap.objs.size ≤ b → (calleeG F' σ.hp s.heap).get? b = none := fun b hb => by
    cases q : (calleeG F' σ.hp s.heap).get? b with
    | none => rfl
    | some o => exact absurd (gLt b o q) (Nat.not_lt.mpr hb)
  have oNone : ∀ b, s.heap.objs.size ≤ b → b ∉ (curOuts F' s.heap).map (·.1) := fun b hb hm => absurd (nofr b ((curOuts_keys R b).mp hm)) (Nat.not_lt.mpr hb)
  have cellAt : ∀ x, (x, VK.cell) ∈ D.vars → ∃ c, (cellsFrom (s.heap.objs.size + 1) fd.scope.names []).lookup x = some c ∧ s.heap.objs.size < c := fun x hx => by
    have := cells_some (x := x) fd.scope.names (s.heap.objs.size + 1) [] (hF.cell x hx)
    obtain ⟨c, hc⟩ := Option.isSome_iff_exists.mp this
    exact ⟨c, hc, hab x c (mem_of_lookup hc)⟩
  have O : FOk P D (calleeF F' A σ.hp s.heap s.heap.objs.size (newEnv fd.scope s.heap.objs.size fd.globals (cellsFrom (s.heap.objs.size + 1) fd.scope.names []) (fd.qualname ++ ".<locals>.") (some f) fd.code none fd.builtins)) := {
    fn := hF.kind
    locals := rfl
    globals := hF.glob
    builtins := hF.blt
    loc := hF.loc
    cell := fun x hx => by
      obtain ⟨c, hc, hlt⟩ := cellAt x hx
      exact ⟨hF.cell x hx, c, hc, Nat.ne_of_gt hlt, gNone c (Nat.le_of_lt hlt), oNone c (Nat.le_of_lt hlt)⟩
    cellInj := fun x y c hx hy hcx hcy => by
      have h1 : (x, c) ∈ cellsFrom (s.heap.objs.size + 1) fd.scope.names [] := mem_of_lookup hcx
      have h2 : (y, c) ∈ cellsFrom (s.heap.objs.size + 1) fd.scope.names [] := mem_of_lookup hcy
      exact pairwise_inj hap h1 h2
    cap := fun x hx => absurd hx (hF.cap x)
    glob := hF.globs
    nd := hF.nd
    X := O'.X
    T := O'.T
    kbg := fun b o e => g_sub O' R (O'.kbg b o e)
    frames := by
      show (A.deeper _).frames = _
      exact Around.frames_deeper (hA.trans O'.frames)
    frs := fun e he => by
      rcases List.mem_cons.mp he with rfl | he
      · exact ⟨by show fd.scope.kind ≠ .module; rw [hF.kind]; decide, s.heap.objs.size, rfl, .inl rfl⟩
      · obtain ⟨h1, L, h2, h3⟩ := O'.frs e he
        have hm : L ∈ F'.L :: F'.outs.map (·.1) := by
          rcases h3 with rfl | ⟨o, ho⟩
          · exact List.mem_cons_self ..
          · exact List.mem_cons_of_mem _ (List.mem_map.mpr ⟨_, ho, rfl⟩)
        obtain ⟨q, hq, e2⟩ := List.mem_map.mp ((curOuts_keys R L).mpr hm)
        exact ⟨h1, L, h2, .inr ⟨q.2, by rw [← e2]; exact hq⟩⟩
    outsOk := fun q hq => by
      obtain ⟨h1, h2⟩ := curOuts_mem.mp hq
      refine ⟨?_, fun vs hv => ?_, Nat.ne_of_lt (Heap.lt_size h1)⟩
      · show (calleeG F' σ.hp s.heap).get? q.1 = none
        cases e : (calleeG F' σ.hp s.heap).get? q.1 with
        | none => rfl
        | some o => exact absurd h2 (of_calleeG e).2.2
      · rcases List.mem_cons.mp h2 with e | hm
        · obtain ⟨m, ⟨o, es, ep, e', hd', _⟩, _⟩ := R.ns
          rw [e, e'] at h1; cases h1
          rw [hd'] at hv; cases hv
        · obtain ⟨q', hq', e⟩ := List.mem_map.mp hm
          obtain ⟨sl, e'⟩ := R.outs q' hq'
          have h1' : s.heap.get? q'.1 = some q.2 := by rw [e]; exact h1
          have e2 : q.2 = { q'.2 with slots := sl } := Option.some.inj (h1'.symm.trans e')
          rw [e2] at hv
          exact (O'.outsOk q' hq').2.1 vs hv
    Lg := gNone _ (Nat.le_refl _)
    above := by
      show F'.kb.objs.size ≤ s.heap.objs.size
      obtain ⟨m, ⟨o, _, _, e, _⟩, _⟩ := R.ns
      exact Nat.le_trans O'.above (Nat.le_of_lt (Heap.lt_size e))
    depth := by
      have h1 := O'.depth
      show A.depth + 1 + 20 * D.depth ≤ 900
      (first | lia | omega)
    units := by
      have h1 := O'.units
      show A.units + 3 + 100 * D.depth ≤ 9000
      (first | lia | omega)
    hh := hh
    fnOk := fun _ => ⟨rfl, rfl⟩ }
  have hpN : ∀ b, s.heap.objs.size ≤ b → σ.hp b = none := fun b hb => by
    cases q : σ.hp b with
    | none => rfl
    | some o => obtain ⟨ob, e⟩ := AObj.at_some (R.hp b o q).1; exact absurd (Heap.lt_size e) (Nat.not_lt.mpr hb)
  have Rc : Rel P D (calleeF F' A σ.hp s.heap s.heap.objs.size (newEnv fd.scope s.heap.objs.size fd.globals (cellsFrom (s.heap.objs.size + 1) fd.scope.names []) (fd.qualname ++ ".<locals>.") (some f) fd.code none fd.builtins)) ⟨fun i => vs[i]?, σ.hp⟩ { s with heap := h', toks := tk } := {
    ns := ⟨_, hns, fun i x v hi hv => by
      obtain ⟨u, hu', hrep⟩ := hr.get i hv
      exact ⟨u, bindL_reverse (hF.loc x (List.mem_of_getElem? hi)) hkeys.1 (zip_mem i (by rw [List.getElem?_map, hi]; rfl) hu') _, hrep⟩⟩
    cell := fun i x hi c hc => by
      have hlt := hab x c (mem_of_lookup hc)
      refine ⟨hpN c (Nat.le_of_lt hlt), _, hcell x c hc, fun v hv => ?_⟩
      obtain ⟨u, hu', hrep⟩ := hr.get i hv
      exact ⟨u, bindC_reverse (by show fd.scope.names.lookup x ≠ _; rw [hF.cell x (List.mem_of_getElem? hi)]; decide) hkeys.1 (zip_mem i (by rw [List.getElem?_map, hi]; rfl) hu') _, hrep⟩
    cap := fun i x v hi _ => absurd (List.mem_of_getElem? hi) (hF.cap x)
    keep := fun b o e => hk b o (of_calleeG e).1
    outs := fun q hq => ⟨q.2.slots, hk _ _ (curOuts_mem.mp hq).1⟩
    hp := fun a o e => by
      obtain ⟨x, y, z⟩ := R.hp a o e
      refine ⟨AObj.at_of x fun ob eo => hk _ _ eo, y, fun hf => ?_⟩
      obtain ⟨z1, z2, z3⟩ := z hf
      obtain ⟨ob, eo⟩ := AObj.at_some x
      refine ⟨?_, Nat.ne_of_lt (Heap.lt_size eo), fun hm => ?_⟩
      · show (calleeG F' σ.hp s.heap).get? a = none
        cases q : (calleeG F' σ.hp s.heap).get? a with
        | none => rfl
        | some o' => have := (of_calleeG q).2.1; unfold tracked at this; rw [e] at this; simp [hf] at this
      · exact (List.mem_cons.mp ((curOuts_keys R a).mp hm)).elim z2 z3
    gens := R.gens
    os := R.os }
  refine wpAny_mono (hS _ O _ _ _ _ Rc hp) ?_ ?_
  · rintro fl s₂ ⟨fa, σ₂, hfa, R₂, h₂⟩
    refine ⟨retV fa, σ₂.hp, ?_, back_rel O' R R₂, h₂⟩
    cases fa with
    | next => subst hfa; rfl
    | brk => subst hfa; rfl
    | cont => subst hfa; rfl
    | ret v => obtain ⟨u, rfl, hu'⟩ := hfa; exact hu'
  · rintro e s₂ ⟨ex, σ₂, x, he⟩
    unfold leaving
    refine wpAny_bind (note_sim O (O.fnOk hF.fn) rfl x fun h₃ x₃ => ?_)
    refine flight_sim O x₃ fun h₄ x₄ => ?_
    exact ⟨ex, ⟨σ.loc, σ₂.hp⟩, back_x O' R x₄, rfl, he⟩

end
end
section
noncomputable abbrev FP := List AV → (AV → AH → Prop) → (Ex → AH → Prop) → AH → Prop
noncomputable def FSim (P : PC) (f : Addr) (dep : Nat) (p : FP) : Prop := ∀ (D' : FD) (F' : FX), FOk P D' F' → ∀ A : Around, A.frames = F'.A.frames → A.depth ≤ F'.A.depth + 5 → A.units ≤ F'.A.units + 20 → A.handled = none → dep + 1 ≤ D'.depth →
  ∀ (σ : St) (s : Shared) (vs : List AV) (us : List Value) Q E, Rel P D' F' σ s → Reps vs us → p vs Q E σ.hp → codeAny (model P.prog P.w) A (.call (.ref f) ⟨us, []⟩) (RC P D' F' σ.loc Q E) s

noncomputable def fpOf (n : Nat) (pb : SP) : FP := fun vs Q E hp => vs.length = n ∧ pb (fun fl σ => Q (retV fl) σ.hp) (fun ex σ => E ex σ.hp) ⟨fun i => vs[i]?, hp⟩
noncomputable def fpStar (k : Nat) (pb : SP) : FP := fun vs Q E hp => k ≤ vs.length ∧ vs.length ≤ 1000000 ∧ ∀ a, hp a = none → pb (fun fl σ => Q (retV fl) σ.hp) (fun ex σ => E ex σ.hp) ⟨fun i => (vs.take k ++ [.ref a])[i]?, upd hp a (.tup (vs.drop k))⟩

section
variable {P : PC} {D : FD} {F : FX} {σ : St} {s : Shared}

theorem fsim_plain {f : Addr} {fd : FuncData} {body : List Stmt} {n : Nat} {pb : SP} (hF : FnOk P f fd body D) (hS : SimSs P D body pb) (hn : n ≤ D.vars.length)
    (hb : ∀ (us : List Value) (s : Shared), us.length = n → P.K.In s.heap → BindsTo s fd ⟨us, []⟩ ((D.vars.map (·.1)).zip us)) : FSim P f D.depth (fpOf n pb) := by
  rintro D' F' O' A hA hd hu hh hdep σ s vs us Q E R hr ⟨hl, hp⟩
  obtain ⟨oc, od, sl, hlk⟩ := hF.look
  have X := O'.kin R
  have hrl : A.depth < recursionLimit := by have := O'.depth; unfold recursionLimit; (first | lia | omega)
  refine codeAny_call_function hrl (X _ _ hlk) rfl hF.co hF.gen hF.body (codeRec_of X hF.code) ?_
  refine hb us s (by rw [← hr.length]; exact hl) X _ _ _ _ ?_
  exact enter_sim hF hS O' hA hd hu (fun _ => hh) hdep hr (by (first | lia | omega)) R hp

theorem fsim_star {f : Addr} {fd : FuncData} {body : List Stmt} {k : Nat} {pb : SP} (hF : FnOk P f fd body D) (hS : SimSs P D body pb) (hn : k + 1 ≤ D.vars.length)
    (hb : ∀ (us : List Value) (s : Shared) (A : Around) (Q : List (Str × Value) → Shared → Prop) (E : Value → Shared → Prop), k ≤ us.length → us.length ≤ 1000000 → P.K.In s.heap →
      Q ((D.vars.map (·.1)).zip (us.take k ++ [.ref s.heap.objs.size])) { s with heap := s.heap.push { cls := .type "tuple", data := .seq (us.drop k).toArray } } → wpAny (model P.prog P.w) A (bindArgs fd ⟨us, []⟩) Q E s) : FSim P f D.depth (fpStar k pb) := by
  rintro D' F' O' A hA hd hu hh hdep σ s vs us Q E R hr ⟨hl, hz, hp⟩
  obtain ⟨oc, od, sl, hlk⟩ := hF.look
  have X := O'.kin R
  have hlen := hr.length
  have hrl : A.depth < recursionLimit := by have := O'.depth; unfold recursionLimit; (first | lia | omega)
  refine codeAny_call_function hrl (X _ _ hlk) rfl hF.co hF.gen hF.body (codeRec_of X hF.code) ?_
  refine hb us s _ _ _ (by (first | lia | omega)) (by (first | lia | omega)) X ?_
  have R₁ := R.push { cls := .type "tuple", data := .seq (us.drop k).toArray } (.tup (vs.drop k)) rfl ⟨us.drop k, 0, Heap.get?_push_size _ rfl, hr.drop k, by rw [List.length_drop]; (first | lia | omega)⟩
  exact enter_sim (σ := ⟨σ.loc, upd σ.hp s.heap.objs.size (.tup (vs.drop k))⟩) hF hS O' hA hd hu (fun _ => hh) hdep ((hr.take k).append (l' := [.ref s.heap.objs.size]) (vs' := [.ref s.heap.objs.size]) ⟨rfl, trivial⟩) (by rw [List.length_append, List.length_take]; simp; (first | lia | omega)) R₁ (hp _ (R.fresh (heap_size_none _)).2)

-- global names
theorem glob_fn (O : FOk P D F) (R : Rel P D F σ s) {x : Str} {pos : Pos} {v : Value} {Q : Value → Shared → Prop} {E : Value → Shared → Prop} (hx : x ∈ D.globs) (e : nsIn P.K mainGlobals x = some (some v)) (h : Q v s)
    (hd : (x == ("__debug__" : Str)) = false := by decide) : wpAny (model P.prog P.w) F.A (eval (.Name x pos) F.env) Q E s :=
  Name_function_global O.fn (O.glob x hx) (loadGlobal_global (env := F.env) (by rw [O.globals]; exact O.T.g.keeps fun b o e => R.keep b o (O.kbg b o e)) (mg_of O.X O.T.g e) h) hd

noncomputable def freeName (P : PC) (x : Str) : Prop := x ∉ startupNames ∧ x ∉ P.loose ∧ x ∉ (recsOf P.p).map (·.name) ∧ x ∉ (litsOf P.p).map (·.1) ∧ x ∉ (clssOf P.p P.loose).map (·.name) ∧ x ≠ "__name__"
theorem glob_bi (O : FOk P D F) (R : Rel P D F σ s) {x : Str} {pos : Pos} {v : Value} {Q : Value → Shared → Prop} {E : Value → Shared → Prop} (hx : x ∈ D.globs) (hf : freeName P x) (hv : bootBuiltins x = some v) (h : Q v s)
    (hd : (x == ("__debug__" : Str)) = false := by decide) : wpAny (model P.prog P.w) F.A (eval (.Name x pos) F.env) Q E s := by
  obtain ⟨h1, h2, h3, h4, h5, h6⟩ := hf
  have hk : ∀ b o, F.kb.get? b = some o → s.heap.get? b = some o := fun b o e => R.keep b o (O.kbg b o e)
  exact Name_function_global O.fn (O.glob x hx) (loadGlobal_builtin (env := F.env) (by rw [O.globals]; exact O.T.g.keeps hk) (O.T.free x h1 h2 h3 h4 h5) (by rw [O.builtins]; exact O.T.b.keeps hk) ((O.T.builtins x h6).trans hv) h) hd
theorem sim_gconst {x : Str} {pos : Pos} {i : Int} {t : Tok} (hx : x ∈ D.globs) (e : nsIn P.K mainGlobals x = some (some (.int i t))) (hd : (x == ("__debug__" : Str)) = false := by decide) : SimE P D (.Name x pos) (pInt i) :=
  fun _ O _ _ _ _ R h => glob_fn O R hx e (RE.int R h) hd

-- arguments
noncomputable def SimAr (P : PC) (D : FD) (args : List Expr) (p : LP) : Prop := ∀ F, FOk P D F → ∀ (f : Value) pos σ s Q E, Rel P D F σ s → p Q E σ →
  wpAny (model P.prog P.w) F.A (evalArgs f true (backTo pos (starEach args F.env)) []) (fun a s' => a.kw = [] ∧ RL P D F Q a.pos s') (RX P D F E) s
theorem sim_arNil : SimAr P D [] lNil := fun _ _ _ _ σ _ _ _ R h => evalArgs_nil3 ⟨rfl, [], σ, trivial, R, h⟩
theorem sim_arCons {e : Expr} {es : List Expr} {p : LP} (h : SimL P D (e :: es) p) (he : ∀ env, starEach (e :: es) env = (false, eval e env) :: starEach es env := by intro _; rfl) : SimAr P D (e :: es) p := by
  intro F O f pos σ s Q E R hp
  have := h F O pos σ s Q E R hp
  rw [he] at this ⊢
  exact evalArgs_plain (wpAny_mono this (fun vs s' x => ⟨rfl, x⟩) fun _ _ x => x)

noncomputable def starOf (v : AV) (Q : List AV → St → Prop) (σ : St) : Prop := ∃ a l, v = .ref a ∧ (σ.hp a = some (.list l) ∨ σ.hp a = some (.tup l)) ∧ Q l σ
theorem star_sim {Q : List AV → St → Prop} {E : Ex → St → Prop} {v : AV} {u : Value} (hv : v.rep u) (R : Rel P D F σ s) (h : starOf v Q σ) : StarOf (model P.prog P.w) F.A (RX P D F E) u (RL P D F Q) s := by
  obtain ⟨a, l, rfl, hl, hq⟩ := h
  subst hv
  have fin : ∀ (T : String) (hT : T = "list" ∨ T = "tuple") (vs : List Value) (n : Nat) (o : Obj), s.heap.get? a = some o → o.cls = .type T → o.data = .seq vs.toArray n → Reps l vs → l.length ≤ 1000000 → StarOf (model P.prog P.w) F.A (RX P D F E) (.ref a) (RL P D F Q) s := by
    intro T hT vs n o ho hc hd r hz
    have hT' : s.TypeIs (.ref a) T := ⟨o, ho, hc⟩
    have z : wpAny (model P.prog P.w) F.A (collect (.ref a)) (RL P D F Q) (RX P D F E) s := by
      refine wpAny_collect_seq a hT ho hc hd (fun h' hk => ⟨l, σ, by simpa using r, R.ext (t := s.toks) hk, hq⟩) ?_
      rw [List.size_toArray, sizeLine_eq, ← r.length]; (first | lia | omega)
    unfold StarOf notIterableAtAll
    rcases hT with rfl | rfl
    · exact wpAny_bind (wpAny_specialOf hT' PySem.F.slot_list_iter.lookup (wpAny_pure ⟨rfl, z⟩))
    · exact wpAny_bind (wpAny_specialOf hT' PySem.F.slot_tuple_iter.lookup (wpAny_pure ⟨rfl, z⟩))
  rcases hl with hl | hl
  · obtain ⟨vs, n, e, r, hz⟩ := R.plain hl
    exact fin "list" (.inl rfl) vs n _ e rfl rfl r hz
  · obtain ⟨vs, n, e, r, hz⟩ := R.tup hl
    exact fin "tuple" (.inr rfl) vs n _ e rfl rfl r hz
noncomputable def lStar (p : EP) : LP := fun Q E σ => p (fun v σ' => starOf v Q σ') E σ
theorem sim_arStar {e : Expr} {p' : Pos} {p : EP} (h : SimE P D e p) : SimAr P D [.Starred e p'] (lStar p) := by
  intro F O f pos σ s Q E R hp
  refine ks_lone (wpAny_mono (h F O σ s _ E R hp) ?_ fun _ _ x => x)
  rintro u s₁ ⟨v, σ₁, hv, R₁, h₁⟩
  exact wpAny_mono (star_sim hv R₁ h₁) (fun b s₂ h₂ => ⟨h₂.1, wpAny_mono h₂.2 (fun vs s₃ x => ⟨rfl, x⟩) fun _ _ x => x⟩) fun _ _ x => x
theorem sim_lStar {e : Expr} {p' : Pos} {p : EP} (h : SimE P D e p) : SimL P D [.Starred e p'] (lStar p) := by
  intro F O pos σ s Q E R hp
  refine items_star (wpAny_mono (h F O σ s _ E R hp) ?_ fun _ _ x => x)
  rintro u s₁ ⟨v, σ₁, hv, R₁, h₁⟩
  refine wpAny_mono (star_sim hv R₁ h₁) (fun b s₂ h₂ => ⟨h₂.1, wpAny_mono h₂.2 (fun vs s₃ x => ?_) fun _ _ x => x⟩) fun _ _ x => x
  refine wpAny_items_nil ?_
  rw [List.append_nil]; exact x

noncomputable def pCall (fp : FP) (args : LP) : EP := fun Q E σ => args (fun vs σ₁ => fp vs (fun v hp' => Q v ⟨σ₁.loc, hp'⟩) (fun ex hp' => E ex ⟨σ₁.loc, hp'⟩) σ₁.hp) E σ

theorem RC.wants {F : FX} {loc : Nat → Option AV} {Q : AV → St → Prop} {E : Ex → St → Prop} : ∀ {r : Result} {s' : Shared} (_ : RC P D F loc (fun v hp' => Q v ⟨loc, hp'⟩) (fun ex hp' => E ex ⟨loc, hp'⟩) r s'), PySem.wants (RE P D F Q) (RX P D F E) r s'
  | .error e, s', x => by
    obtain ⟨ex, σ', x1, x2, x3⟩ := x
    refine ⟨ex, σ', x1, ?_⟩
    have : σ' = ⟨loc, σ'.hp⟩ := by cases σ'; cases x2; rfl
    rw [this]; exact x3
  | .ok .next, _, x => x
  | .ok .brk, _, x => x
  | .ok .cont, _, x => x
  | .ok (.ret v), s', x => by
    obtain ⟨av, hp', h1, h2, h3⟩ := x
    exact ⟨av, ⟨loc, hp'⟩, h1, h2, h3⟩

theorem callee_sim {f : Addr} {dep : Nat} {fp : FP} (hf : FSim P f dep fp) (O : FOk P D F) (hc : D.calm = true) (hdep : dep + 1 ≤ D.depth) {A : Around} (hA : A.frames = F.A.frames) (hd : A.depth ≤ F.A.depth + 5) (hu : A.units ≤ F.A.units + 20) (hh : A.handled = none) {vs : List AV} {us : List Value} (hr : Reps vs us) (R : Rel P D F σ s) {Q : AV → St → Prop} {E : Ex → St → Prop}
    (hp : fp vs (fun v hp' => Q v ⟨σ.loc, hp'⟩) (fun ex hp' => E ex ⟨σ.loc, hp'⟩) σ.hp) : wpAny (model P.prog P.w) A (call (.ref f) us) (RE P D F Q) (RX P D F E) s :=
  wpAny_call (codeAny_mono (hf D F O A hA hd hu hh hdep σ s vs us _ _ R hr hp) fun _ _ x => RC.wants x)

theorem sim_call {x : Str} {np pos : Pos} {args : List Expr} {f : Addr} {dep : Nat} {fp : FP} {p : LP} (hf : FSim P f dep fp) (hx : x ∈ D.globs) (e : nsIn P.K mainGlobals x = some (some (.ref f))) (hk : keepIn P.K (.ref f) = true) (ha : SimAr P D args p) (hdep : dep + 1 ≤ D.depth)
    (hs : ∀ env, (backTo pos (starEach args env)).any (·.1) = false := by intro _; rfl) (hc : D.calm = true := by rfl) (hd : (x == ("__debug__" : Str)) = false := by decide) : SimE P D (.Call (.Name x np) args [] pos) (pCall fp p) := by
  intro F O σ s Q E R hp
  refine wpAny_Call_ofName (glob_fn O R hx e ?_ hd)
  refine callWith_of (P := fun h => P.K.In h) (by rw [hs]; rfl) (keeps_K hk) (wpAny_mono (ha F O _ pos σ s _ E R hp) ?_ fun _ _ x => x)
  rintro a s₁ ⟨hkw, vs, σ₁, hr, R₁, h₁⟩
  refine ⟨O.kin R₁, ?_⟩
  rw [hkw]
  exact callee_sim hf O hc hdep rfl (Nat.le_add_right _ _) (Nat.le_add_right _ _) (O.hh hc) hr R₁ h₁

end
end
section
structure MethOk (P : PC) (x : Str) (f : Addr) : Prop where
  get : plainGet P.K P.cS x = true
  find : findIn P.K (.ref P.cS) x = some (some (.ref f))
  isFn : isFn P.K (.ref f) = true
  fnIn : fnIn P.K f = true
  keep : keepIn P.K (.ref f) = true
  getf : specialIn P.K (.ref f) "__get__" = some (some (.builtin "function.__get__"))
  takes : takesIn P.K (.ref f) = some false
  copied : copiedNames.contains x = false
  n0 : x ≠ "_node2info"
  n1 : x ≠ "_ready_nodes"
  n2 : x ≠ "_npassedout"
  n3 : x ≠ "_nfinished"

section
variable {P : PC} {D : FD} {F : FX} {σ : St} {s : Shared}

noncomputable def allOff (kb : Heap) (L : Addr) (h : Heap) : List (Addr × Obj) := (allBut L h).filter fun p => (kb.get? p.1).isNone
theorem news_off (kb : Heap) (L : Addr) (h : Heap) : News kb L h (allOff kb L h) := fun p hp => by
  obtain ⟨h1, h2⟩ := List.mem_filter.mp hp
  obtain ⟨e1, e2, _⟩ := news_all L h p h1
  exact ⟨e1, e2, by simpa using h2⟩
theorem off_keeps {kb : Heap} {L : Addr} {h h' : Heap} {m : Str → Option Value} {more : List (Addr × Obj)} (hk : ∀ b o, kb.get? b = some o → h.get? b = some o) (F' : Fr kb L h' m) (N' : News kb L h' (more ++ allOff kb L h)) : ∀ b o, b ≠ L → h.get? b = some o → h'.get? b = some o := fun b o ne e => by
  cases q : kb.get? b with
  | none => exact (N' (b, o) (List.mem_append_right _ (List.mem_filter.mpr ⟨mem_all ne e, by simp [q]⟩))).1
  | some o' => have := hk b o' q; rw [e] at this; cases this; exact F'.keep b o q

theorem Rel.growL (R : Rel P D F σ s) (O : FOk P D F) {m : Str → Option Value} {h' : Heap} {t : Nat} (hm : s.heap.Ns F.L m) (hm' : h'.Ns F.L m) (hk : ∀ b o, b ≠ F.L → s.heap.get? b = some o → h'.get? b = some o) : Rel P D F σ { s with heap := h', toks := t } :=
  R.changeL O (fun _ => False) (fun _ x => x.elim) (fun m' h => ns_unique h hm ▸ hm') (fun b o _ ne e => hk b o ne e) fun _ _ e => .inl ⟨e, id⟩

noncomputable def isInst (σ : St) (v : AV) (a : Addr) : Prop := v = .ref a ∧ ∃ d, σ.hp a = some (.inst d) ∧ isSd (σ.hp d)

noncomputable def pMeth (o : EP) (fp : FP) (args : LP) : EP := fun Q E σ => o (fun ov σ₁ => ∃ a, isInst σ₁ ov a ∧ args (fun vs σ₂ => fp (ov :: vs) (fun v hp' => Q v ⟨σ₂.loc, hp'⟩) (fun ex hp' => E ex ⟨σ₂.loc, hp'⟩) σ₂.hp) E σ₁) E σ

theorem sim_meth {o : Expr} {x : Str} {apos pos : Pos} {args : List Expr} {f : Addr} {dep : Nat} {fp : FP} {po : EP} {p : LP} (hM : MethOk P x f) (hf : FSim P f dep fp) (ho : SimE P D o po) (ha : SimAr P D args p) (hdep : dep + 1 ≤ D.depth)
    (hs : ∀ env, (backTo pos (starEach args env)).any (·.1) = false := by intro _; rfl)
    (hbase : ∀ env, attributeBase o x env (eval o env) = eval o env := by intro _; rfl)
    (hfew : ∀ env, methodCallForm (args.length + ([] : List Keyword).length) (backTo pos (starEach args env)) (backToKw pos (keywordEach [] env)) = true := by intro _; rfl)
    (hline : (apos.endLine == pos.line) = true := by rfl) (hc : D.calm = true := by rfl) : SimE P D (.Call (.Attribute o x apos) args [] pos) (pMeth po fp p) := by
  intro F O σ s Q E R hp
  rw [arm_eval_Call, hbase]
  refine wpAny_bind (wpAny_mono (ho F O σ s _ E R hp) ?_ fun _ _ x => x)
  rintro ov s₁ ⟨av, σ₁, hav, R₁, a, ⟨rfl, d, h1, h2⟩, h₁⟩
  subst hav
  refine wpAny_bind (wpAny_standAt ?_)
  have hpos : methodCallPos true o F.env apos pos = pure pos := by unfold methodCallPos; simp [hline]
  unfold methodCall
  rw [hfew]
  unfold isSd at h2
  split at h2 <;> try exact h2.elim
  rename_i e2
  obtain ⟨des, n, I, e, _, _, _, hx⟩ := inst_at R₁ h1 e2
  obtain ⟨m, Fm⟩ := R₁.frG O
  refine wpAny_bind (wpAny_holding (method_inst Fm O.X I hM.get hM.find hM.isFn (hx x hM.n0 hM.n1 hM.n2 hM.n3) ?_))
  refine wpAny_bind (wpAny_of_eq hpos ?_)
  refine callWith_of (P := fun h => P.K.In h) (by rw [hs]; rfl) (keeps_K hM.keep) (wpAny_mono (ha F O _ pos σ₁ s₁ _ E R₁ h₁) ?_ fun _ _ x => x)
  rintro ar s₂ ⟨hkw, vs, σ₂, hr, R₂, h₂⟩
  refine ⟨O.kin R₂, ?_⟩
  rw [hkw]
  exact callee_sim (vs := .ref a :: vs) (us := .ref a :: ar.pos) hf O hc hdep rfl (Nat.le_add_right _ _) (Nat.le_add_right _ _) (O.hh hc) ⟨rfl, hr⟩ R₂ h₂

theorem sim_methS {o : Expr} {x : Str} {apos pos : Pos} {args : List Expr} {f : Addr} {dep : Nat} {fp : FP} {po : EP} {p : LP} (hP : POk P) (hM : MethOk P x f) (hf : FSim P f dep fp) (ho : SimE P D o po) (ha : SimAr P D args p) (hdep : dep + 1 ≤ D.depth)
    (hs : ∀ env, (backTo pos (starEach args env)).any (·.1) = true := by intro _; rfl)
    (hbase : ∀ env, attributeBase o x env (eval o env) = eval o env := by intro _; rfl)
    (hfew : ∀ env, methodCallForm (args.length + ([] : List Keyword).length) (backTo pos (starEach args env)) (backToKw pos (keywordEach [] env)) = false := by intro _; rfl) (hc : D.calm = true := by rfl) : SimE P D (.Call (.Attribute o x apos) args [] pos) (pMeth po fp p) := by
  intro F O σ s Q E R hp
  rw [arm_eval_Call, hbase]
  refine wpAny_bind (wpAny_mono (ho F O σ s _ E R hp) ?_ fun _ _ x => x)
  rintro ov s₁ ⟨av, σ₁, hav, R₁, a, ⟨rfl, d, h1, h2⟩, h₁⟩
  subst hav
  refine wpAny_bind (wpAny_standAt ?_)
  have hpos : methodCallPos false o F.env apos pos = pure pos := by unfold methodCallPos; simp
  unfold methodCall
  rw [hfew]
  unfold isSd at h2
  split at h2 <;> try exact h2.elim
  rename_i e2
  obtain ⟨des, n, I, e, _, _, _, hx⟩ := inst_at R₁ h1 e2
  obtain ⟨m, Fm⟩ := R₁.frG O
  have hm : s₁.heap.Ns F.L m := Fm.ns
  refine wpAny_bind (wpAny_holding (wpAny_bind ?_))
  refine kbm_bound (news := allOff F.kb F.L s₁.heap) Fm O.X (news_off _ _ _) I hM.get hP.sDict hM.find hM.isFn hM.getf hM.takes hM.copied (hx x hM.n0 hM.n1 hM.n2 hM.n3) fun q h' F' N' hlt => wpAny_pure ?_
  have hk := off_keeps (more := [(q, methodObj (.ref f) (.ref a))]) (fun b o e => R₁.keep b o (O.kbg b o e)) F' N'
  have R₂ : Rel P D F σ₁ { s₁ with heap := h', toks := s₁.toks + 1 } := R₁.growL O hm F'.ns hk
  have hq : h'.get? q = some (methodObj (.ref f) (.ref a)) := (N' _ (List.mem_cons_self ..)).1
  have hqL : q ≠ F.L := (N' _ (List.mem_cons_self ..)).2.1
  -- the bound method is new
  have uq : Unt D F σ₁ q := by
    have hqn : s₁.heap.get? q = none := by
      cases e3 : s₁.heap.get? q with
      | none => rfl
      | some ob =>
        exfalso
        have h3 : F.kb.get? q = none := (N' _ (List.mem_cons_self ..)).2.2
        have := hlt (q, ob) (List.mem_filter.mpr ⟨mem_all hqL e3, by simp [h3]⟩)
        exact Nat.lt_irrefl _ this
    exact R₁.fresh hqn
  refine wpAny_bind (wpAny_of_eq hpos ?_)
  have O' := O.prot R₂ uq
  have Rp := R₂.prot uq
  have nc : ∀ v, (methodObj (Value.ref f) (.ref a)).data ≠ .cell v := fun v h => by cases h
  refine ks_call (P := fun h => MethP P.K q f (.ref a) h) (hs _) (keeps_M hM.fnIn) (wpAny_mono (ha _ O' _ pos σ₁ _ _ E Rp h₁) ?_ fun _ _ x => RX.unprot R₂ hq nc x)
  rintro ar s₃ ⟨hkw, vs, σ₃, hr, R₃, h₃⟩
  obtain ⟨R₄, hq₄⟩ := R₂.unprot hq nc R₃
  refine ⟨⟨hq₄, O.kin R₄⟩, ?_⟩
  rw [hkw]
  refine wpAny_call (method_call hq₄ ?_)
  exact codeAny_mono (hf D F O F.A rfl (Nat.le_add_right _ _) (Nat.le_add_right _ _) (O.hh hc) hdep σ₃ s₃ (.ref a :: vs) _ _ _ R₄ ⟨rfl, hr⟩ h₃) fun _ _ x => RC.wants x

-- making instances
structure ClsOk (P : PC) (C fI : Addr) (dep : Nat) (fp : FP) : Prop where
  makes : makesIn P.K C = true
  init : findIn P.K (.ref C) "__init__" = some (some (.ref fI))
  fn : typeIn P.K (.ref fI) = some (.type "function")
  keep : keepIn P.K (.ref C) = true
  sim : FSim P fI dep fp

noncomputable def pNewS (fp : FP) (args : LP) : EP := fun Q E σ => args (fun vs σ₁ => ∀ x d, σ₁.hp x = none → σ₁.hp d = none → x ≠ d → fp (.ref x :: vs) (fun v hp' => v = .none ∧ Q (.ref x) ⟨σ₁.loc, hp'⟩) (fun ex hp' => E ex ⟨σ₁.loc, hp'⟩) (upd (upd σ₁.hp d (.sd none none none none)) x (.inst d))) E σ
noncomputable def pNewN (fp : FP) (args : LP) : EP := fun Q E σ => args (fun vs σ₁ => ∀ x d, σ₁.hp x = none → σ₁.hp d = none → x ≠ d → fp (.ref x :: vs) (fun v hp' => v = .none ∧ Q (.ref x) ⟨σ₁.loc, hp'⟩) (fun ex hp' => E ex ⟨σ₁.loc, hp'⟩) (upd (upd σ₁.hp d (.sd none none none none)) x (.rcd d []))) E σ

theorem sd_empty {h : Heap} {d : Addr} (e : h.get? d = some emptyDict) : (AObj.sd none none none none).at P h d := by
  refine ⟨[], 0, e, rfl, Nat.zero_le _, rfl, rfl, rfl, rfl, fun x _ _ _ _ => rfl⟩

theorem under_create {A : Around} {C : Addr} {rest : List Value} : (A.under (.builtin "type.__call__" ⟨.ref C :: rest, []⟩)).frames = A.frames ∧ (A.under (.builtin "type.__call__" ⟨.ref C :: rest, []⟩)).depth ≤ A.depth + 5 ∧ (A.under (.builtin "type.__call__" ⟨.ref C :: rest, []⟩)).units ≤ A.units + 20 ∧ (A.under (.builtin "type.__call__" ⟨.ref C :: rest, []⟩)).handled = A.handled := by
  refine ⟨?_, ?_, ?_, rfl⟩
  · show pushEnvs (Code.builtin "type.__call__" ⟨.ref C :: rest, []⟩).envs A.frames = A.frames
    rfl
  · show A.depth + (Code.builtin "type.__call__" ⟨.ref C :: rest, []⟩).weight ≤ A.depth + 5
    have : (Code.builtin "type.__call__" ⟨.ref C :: rest, []⟩).weight ≤ 5 := by
      unfold Code.weight
      have h1 : (Code.builtin "type.__call__" ⟨.ref C :: rest, []⟩).frames = 0 := rfl
      split <;> split <;> split <;> first | (first | lia | omega) | (simp_all [Code.isCaller]; done)
    (first | lia | omega)
  · show A.units + (Code.builtin "type.__call__" ⟨.ref C :: rest, []⟩).cUnits ≤ A.units + 20
    have : (Code.builtin "type.__call__" ⟨.ref C :: rest, []⟩).cUnits ≤ 20 := by show 1 + 3 * (Code.builtin "type.__call__" ⟨.ref C :: rest, []⟩).frames ≤ 20; have h1 : (Code.builtin "type.__call__" ⟨.ref C :: rest, []⟩).frames = 0 := rfl; (first | lia | omega)
    (first | lia | omega)


theorem code_new {C fI : Addr} {dep : Nat} {fp : FP} (hC : ClsOk P C fI dep fp) (O : FOk P D F) (hdep : dep + 1 ≤ D.depth) (hc : D.calm = true) {mk : Addr → AObj} (hfz : ∀ d, (mk d).frozen = false) (hob : ∀ h x d, h.get? x = some (instObj C d) → (mk d).at P h x)
    {vs : List AV} {us : List Value} (hr : Reps vs us) (R : Rel P D F σ s) {Q : AV → St → Prop} {E : Ex → St → Prop}
    (hp : ∀ x d, σ.hp x = none → σ.hp d = none → x ≠ d → fp (.ref x :: vs) (fun v hp' => v = .none ∧ Q (.ref x) ⟨σ.loc, hp'⟩) (fun ex hp' => E ex ⟨σ.loc, hp'⟩) (upd (upd σ.hp d (.sd none none none none)) x (mk d))) :
    wpAny (model P.prog P.w) F.A (call (.ref C) us) (RE P D F Q) (RX P D F E) s := by
  obtain ⟨m, Fm, hm⟩ := R.fr
  refine wpAny_call (make_K Fm (news_all F.L s.heap) (O.kin R) hC.makes hC.init hC.fn fun x d h' F' N' hlt hdx => ?_)
  have Nx := N' _ (List.mem_cons_self ..)
  have Nd := N' _ (List.mem_cons_of_mem _ (List.mem_cons_self ..))
  have hk : ∀ b o, b ≠ F.L → s.heap.get? b = some o → h'.get? b = some o := fun b o ne e => (N' (b, o) (List.mem_cons_of_mem _ (List.mem_cons_of_mem _ (mem_all ne e)))).1
  have dn : s.heap.get? d = none := by
    cases e : s.heap.get? d with
    | none => rfl
    | some o => exact absurd (hlt (d, o) (mem_all Nd.2.1 e)) (Nat.lt_irrefl _)
  have xn : s.heap.get? x = none := by
    cases e : s.heap.get? x with
    | none => rfl
    | some o => exact absurd (hlt (x, o) (mem_all Nx.2.1 e)) (Nat.not_lt.mpr (Nat.le_of_lt hdx))
  have ne : x ≠ d := Nat.ne_of_gt hdx
  obtain ⟨fx, hx0⟩ := R.fresh xn
  obtain ⟨fd, hd0⟩ := R.fresh dn
  have R' : Rel P D F ⟨σ.loc, upd (upd σ.hp d (.sd none none none none)) x (mk d)⟩ { s with heap := h' } := by
    refine R.changeL O (t := s.toks) (fun _ => False) (fun _ x => x.elim) (fun m' hm' => ns_unique hm' hm ▸ F'.ns) (fun b o _ ne e => hk b o ne e) fun a o e => ?_
    unfold upd at e
    split at e
    · rename_i q; subst q; cases e
      exact .inr ⟨fx, hfz d, hob h' a d Nx.1⟩
    · split at e
      · rename_i q; subst q; cases e
        exact .inr ⟨fd, rfl, sd_empty Nd.1⟩
      · exact .inl ⟨e, id⟩
  obtain ⟨u1, u2, u3, u4⟩ := under_create (A := F.A) (C := C) (rest := us)
  refine codeAny_mono (hC.sim D F O _ u1 u2 u3 (u4.trans (O.hh hc)) hdep _ _ (.ref x :: vs) (.ref x :: us) _ _ R' ⟨rfl, hr⟩ (hp x d hx0 hd0 ne)) ?_
  rintro (e | (_ | _ | _ | v)) s' z
  · obtain ⟨ex, σ', x1, x2, x3⟩ := z
    refine ⟨ex, σ', x1, ?_⟩
    have : σ' = ⟨σ.loc, σ'.hp⟩ := by cases σ'; cases x2; rfl
    rw [this]; exact x3
  · exact z
  · exact z
  · exact z
  · obtain ⟨av, hp', h1, h2, rfl, h3⟩ := z
    exact ⟨h1, .ref x, ⟨σ.loc, hp'⟩, rfl, h2, h3⟩

theorem sim_newS {x : Str} {np pos : Pos} {args : List Expr} {fI : Addr} {dep : Nat} {fp : FP} {p : LP} (hC : ClsOk P P.cS fI dep fp) (hx : x ∈ D.globs) (e : nsIn P.K mainGlobals x = some (some (.ref P.cS))) (ha : SimAr P D args p) (hdep : dep + 1 ≤ D.depth)
    (hs : ∀ env, (backTo pos (starEach args env)).any (·.1) = false := by intro _; rfl) (hc : D.calm = true := by rfl) (hd : (x == ("__debug__" : Str)) = false := by decide) : SimE P D (.Call (.Name x np) args [] pos) (pNewS fp p) := by
  intro F O σ s Q E R hp
  refine wpAny_Call_ofName (glob_fn O R hx e ?_ hd)
  refine callWith_of (P := fun h => P.K.In h) (by rw [hs]; rfl) (keeps_K hC.keep) (wpAny_mono (ha F O _ pos σ s _ E R hp) ?_ fun _ _ x => x)
  rintro a s₁ ⟨hkw, vs, σ₁, hr, R₁, h₁⟩
  refine ⟨O.kin R₁, ?_⟩
  rw [hkw]
  exact code_new (mk := fun d => .inst d) hC O hdep hc (fun _ => rfl) (fun h x d e => e) hr R₁ h₁
theorem sim_newN {x : Str} {np pos : Pos} {args : List Expr} {fI : Addr} {dep : Nat} {fp : FP} {p : LP} (hC : ClsOk P P.cN fI dep fp) (hx : x ∈ D.globs) (e : nsIn P.K mainGlobals x = some (some (.ref P.cN))) (ha : SimAr P D args p) (hdep : dep + 1 ≤ D.depth)
    (hs : ∀ env, (backTo pos (starEach args env)).any (·.1) = false := by intro _; rfl) (hc : D.calm = true := by rfl) (hd : (x == ("__debug__" : Str)) = false := by decide) : SimE P D (.Call (.Name x np) args [] pos) (pNewN fp p) := by
  intro F O σ s Q E R hp
  refine wpAny_Call_ofName (glob_fn O R hx e ?_ hd)
  refine callWith_of (P := fun h => P.K.In h) (by rw [hs]; rfl) (keeps_K hC.keep) (wpAny_mono (ha F O _ pos σ s _ E R hp) ?_ fun _ _ x => x)
  rintro a s₁ ⟨hkw, vs, σ₁, hr, R₁, h₁⟩
  refine ⟨O.kin R₁, ?_⟩
  rw [hkw]
  exact code_new (mk := fun d => .rcd d []) hC O hdep hc (fun _ => rfl) (fun h x d e => ⟨[], e, trivial⟩) hr R₁ h₁

end
end
section
section
variable {P : PC} {D : FD} {F : FX} {σ : St} {s : Shared}

noncomputable def pBi (f : List AV → EP) (p : LP) : EP := fun Q E σ => p (fun vs σ' => f vs Q E σ') E σ

theorem sim_bi {x : Str} {np pos : Pos} {e : Expr} {es : List Expr} {p : LP} {f : List AV → EP} {id : String} (hx : x ∈ D.globs) (hf : freeName P x) (hv : bootBuiltins x = some (.builtin id)) (ha : SimL P D (e :: es) p)
    (hop : ∀ F, FOk P D F → ∀ vs us, Reps vs us → OpSim P D F (call (.builtin id) us) (f vs))
    (he : ∀ env, starEach (e :: es) env = (false, eval e env) :: starEach es env := by intro _; rfl) (hs : ∀ env, (backTo pos (starEach es env)).any (·.1) = false := by intro _; rfl) (hd : (x == ("__debug__" : Str)) = false := by decide) :
    SimE P D (.Call (.Name x np) (e :: es) [] pos) (pBi f p) := by
  intro F O σ s Q E R hp
  refine wpAny_Call_ofName (glob_bi O R hx hf hv ?_ hd)
  refine PyProof.Rows.callWith_builtin1 (wpAny_mono (ha F O pos σ s _ E R hp) ?_ fun _ _ x => x) (he _) (hs _)
  rintro us s₁ ⟨vs, σ₁, hr, R₁, h₁⟩
  exact hop F O vs us hr σ₁ s₁ Q E R₁ h₁
theorem sim_ty {x : Str} {np pos : Pos} {e : Expr} {es : List Expr} {p : LP} {f : List AV → EP} {T : String} (hx : x ∈ D.globs) (hf : freeName P x) (hv : bootBuiltins x = some (.type T)) (ha : SimL P D (e :: es) p)
    (hop : ∀ F, FOk P D F → ∀ vs us, Reps vs us → OpSim P D F (call (.type T) us) (f vs))
    (he : ∀ env, starEach (e :: es) env = (false, eval e env) :: starEach es env := by intro _; rfl) (hs : ∀ env, (backTo pos (starEach es env)).any (·.1) = false := by intro _; rfl) (hd : (x == ("__debug__" : Str)) = false := by decide) :
    SimE P D (.Call (.Name x np) (e :: es) [] pos) (pBi f p) := by
  intro F O σ s Q E R hp
  refine wpAny_Call_ofName (glob_bi O R hx hf hv ?_ hd)
  refine PyProof.Rows.callWith_type1 (wpAny_mono (ha F O pos σ s _ E R hp) ?_ fun _ _ x => x) (he _) (hs _)
  rintro us s₁ ⟨vs, σ₁, hr, R₁, h₁⟩
  exact hop F O vs us hr σ₁ s₁ Q E R₁ h₁

-- len
noncomputable def opLen : List AV → EP
  | [.ref a] => fun Q _ σ => (∃ l, σ.lst a = some l ∧ Q (.int l.length) σ) ∨ (∃ l, σ.hp a = some (.tup l) ∧ Q (.int l.length) σ)
  | _ => fun _ _ _ => False
theorem op_len (vs : List AV) (us : List Value) (hr : Reps vs us) : OpSim P D F (call (.builtin "len") us) (opLen vs) := by
  intro σ s Q E R h
  match vs, hr, h with
  | [.ref a], hr, h =>
    obtain ⟨u, rfl, hu⟩ := hr.one
    subst hu
    rcases h with ⟨l, h1, h2⟩ | ⟨l, h1, h2⟩
    · obtain ⟨vs, e, r, hz⟩ := R.isList h1
      have := r.length
      exact PyProof.Rows.len_list e (by rw [List.size_toArray]; (first | lia | omega)) (.int R.toks h2 (by rw [List.size_toArray, this]))
    · obtain ⟨vs, n, e, r, hz⟩ := R.tup h1
      have := r.length
      exact PyProof.Rows.len_tuple (items := vs.toArray) ⟨_, e, rfl, n, rfl⟩ (by rw [List.size_toArray]; (first | lia | omega)) (.int R.toks h2 (by rw [List.size_toArray, this]))

-- sum
noncomputable def opSum : List AV → EP
  | [.ref a] => fun Q _ σ => ∃ ns, σ.lst a = some (intsA ns) ∧ Q (.int ns.sum) σ
  | _ => fun _ _ _ => False
-- min, max
noncomputable def opMin2 : List AV → EP
  | [.int x, .int y] => fun Q _ σ => Q (.int (min x y)) σ
  | [.ref a] => fun Q _ σ => ∃ ns, σ.lst a = some (intsA ns) ∧ ns ≠ [] ∧ ∀ m, m ∈ ns → (∀ x ∈ ns, m ≤ x) → Q (.int m) σ
  | _ => fun _ _ _ => False
noncomputable def opMax2 : List AV → EP
  | [.int x, .int y] => fun Q _ σ => Q (.int (max x y)) σ
  | [.ref a] => fun Q _ σ => ∃ ns, σ.lst a = some (intsA ns) ∧ ns ≠ [] ∧ ∀ m, m ∈ ns → (∀ x ∈ ns, x ≤ m) → Q (.int m) σ
  | _ => fun _ _ _ => False
theorem Rel.all' (R : Rel P D F σ s) (O : FOk P D F) {m : Str → Option Value} {h' : Heap} {t : Nat} (hm : s.heap.Ns F.L m) (F' : Fr noHeap F.L h' m) (N' : News noHeap F.L h' (allBut F.L s.heap)) : Rel P D F σ { s with heap := h', toks := t } :=
  R.growL O hm F'.ns fun b o ne e => (N' _ (mem_all ne e)).1
theorem op_min (O : FOk P D F) (hc : D.calm = true) (vs : List AV) (us : List Value) (hr : Reps vs us) : OpSim P D F (call (.builtin "min") us) (opMin2 vs) := by
  intro σ s Q E R h
  obtain ⟨m, Fm, hm⟩ := R.fr
  match vs, hr, h with
  | [.int x, .int y], hr, h =>
    obtain ⟨u, v, rfl, ⟨t, hu⟩, t', hv⟩ := hr.two
    subst hu hv
    refine min_two_N (O.hh hc) Fm (news_all F.L s.heap) fun h' tk F' N' => .int (R.all' O hm F' N') h ?_
    split <;> (first | lia | omega)
  | [.ref a], hr, h =>
    obtain ⟨u, rfl, hu⟩ := hr.one
    subst hu
    obtain ⟨ns, h1, h2, h3⟩ := h
    obtain ⟨vs, e, r, hz⟩ := R.isList h1
    refine kso_min Fm (news_all F.L s.heap) e r.ints (List.length_pos_iff.mpr h2) (O.hh hc) fun h' M t tk F' N' a1 a2 => .int (R.all' O hm F' N') (h3 M a1 a2)
noncomputable def opAbs : List AV → EP
  | [.int x] => fun Q _ σ => Q (.int (x.natAbs)) σ
  | _ => fun _ _ _ => False
-- tuple(list), list(list | tuple), sorted
noncomputable def opTuple : List AV → EP
  | [.ref l] => fun Q _ σ => ∃ xs, σ.hp l = some (.list xs) ∧ ∀ a, σ.hp a = none → Q (.ref a) ⟨σ.loc, upd σ.hp a (.tup xs)⟩
  | _ => fun _ _ _ => False
theorem op_tuple (vs : List AV) (us : List Value) (hr : Reps vs us) : OpSim P D F (call (.type "tuple") us) (opTuple vs) := by
  intro σ s Q E R h
  match vs, hr, h with
  | [.ref l], hr, h =>
    obtain ⟨u, rfl, hu⟩ := hr.one
    subst hu
    obtain ⟨xs, h1, h2⟩ := h
    obtain ⟨vs, n, e, r, hz⟩ := R.plain h1
    refine call_tuple_list (items := vs.toArray) ⟨_, e, rfl, n, rfl⟩ (fun h' hk => ?_) (by rw [List.size_toArray, sizeLine_eq, ← r.length]; (first | lia | omega))
    have R' := R.ext (t := s.toks) hk
    exact .ref (R'.push _ (.tup xs) rfl ⟨vs, 0, Heap.get?_push_size _ rfl, r, hz⟩) (h2 _ (R'.fresh (heap_size_none _)).2)
noncomputable def opList : List AV → EP
  | [.ref l] => fun Q _ σ => ∃ xs, (σ.lst l = some xs ∨ σ.hp l = some (.tup xs)) ∧ ∀ a, σ.hp a = none → Q (.ref a) ⟨σ.loc, upd σ.hp a (.list xs)⟩
  | _ => fun _ _ _ => False
theorem Rel.newAt (R : Rel P D F σ s) (O : FOk P D F) {m : Str → Option Value} {h' : Heap} {t : Nat} {a : Addr} {ob : Obj} {o : AObj} (hm : s.heap.Ns F.L m) (F' : Fr noHeap F.L h' m) (N' : News noHeap F.L h' ((a, ob) :: allBut F.L s.heap)) (hn : s.heap.get? a = none) (hf : o.frozen = false) (ho : o.at P h' a) :
    Rel P D F ⟨σ.loc, upd σ.hp a o⟩ { s with heap := h', toks := t } := by
  refine R.changeL O (fun _ => False) (fun _ x => x.elim) (fun m' hm' => ns_unique hm' hm ▸ F'.ns) (fun b o' _ ne e => (N' _ (List.mem_cons_of_mem _ (mem_all ne e))).1) fun b o' e => ?_
  unfold upd at e
  split at e
  · rename_i h; subst h; cases e
    exact .inr ⟨(R.fresh hn).1, hf, ho⟩
  · exact .inl ⟨e, id⟩
theorem fresh_of_lt {L a : Addr} {h : Heap} (hL : a ≠ L) (hlt : ∀ q ∈ allBut L h, q.1 < a) : h.get? a = none := by
  cases e : h.get? a with
  | none => rfl
  | some o => exact absurd (hlt (a, o) (mem_all hL e)) (Nat.lt_irrefl _)
theorem op_list (O : FOk P D F) (vs : List AV) (us : List Value) (hr : Reps vs us) : OpSim P D F (call (.type "list") us) (opList vs) := by
  intro σ s Q E R h
  obtain ⟨m, Fm, hm⟩ := R.fr
  match vs, hr, h with
  | [.ref l], hr, h =>
    obtain ⟨u, rfl, hu⟩ := hr.one
    subst hu
    obtain ⟨xs, h1 | h1, h2⟩ := h
    · obtain ⟨vs, e, r, hz⟩ := R.isList h1
      refine list_copyK Fm (news_all F.L s.heap) e (fun a c h' F' N' hlt => ?_) (by rw [List.size_toArray, sizeLine_eq, ← r.length]; (first | lia | omega))
      have Na := N' _ (List.mem_cons_self ..)
      have hn := fresh_of_lt Na.2.1 hlt
      exact .ref (R.newAt O (o := .list xs) (t := s.toks) hm F' N' hn rfl ⟨vs, c, Na.1, r, hz⟩) (h2 _ (R.fresh hn).2)
    · obtain ⟨vs, n, e, r, hz⟩ := R.tup h1
      refine list_copyKT (items := vs.toArray) Fm (news_all F.L s.heap) ⟨_, e, rfl, n, rfl⟩ (fun a c h' F' N' hlt => ?_) (by rw [List.size_toArray, sizeLine_eq, ← r.length]; (first | lia | omega))
      have Na := N' _ (List.mem_cons_self ..)
      have hn := fresh_of_lt Na.2.1 hlt
      exact .ref (R.newAt O (o := .list xs) (t := s.toks) hm F' N' hn rfl ⟨vs, c, Na.1, r, hz⟩) (h2 _ (R.fresh hn).2)

theorem intsA_of : ∀ {vs : List Value} {ns : List Int}, IntsAre vs ns → Reps (intsA ns) vs
  | _, _, .nil => trivial
  | _, _, .cons n t h => ⟨⟨t, rfl⟩, intsA_of h⟩

noncomputable def opSorted : List AV → EP
  | [.ref l] => fun Q _ σ => ∃ ns, (σ.lst l = some (intsA ns) ∨ σ.hp l = some (.tup (intsA ns))) ∧ ns.length < 64 ∧ ∀ a ns', σ.hp a = none → ns'.Perm ns → ns'.Pairwise (· ≤ ·) → Q (.ref a) ⟨σ.loc, upd σ.hp a (.list (intsA ns'))⟩
  | _ => fun _ _ _ => False

theorem sorted_seq {a : Addr} {T : String} {o : Obj} {n : Nat} {vs : List Value} {ns : List Int} {A : Around} {Q : Value → Shared → Prop} {E : Value → Shared → Prop} (hT : T = "list" ∨ T = "tuple") (ho : s.heap.get? a = some o) (hc : o.cls = .type T) (hd : o.data = .seq vs.toArray n) (hI : IntsAre vs ns) (h64 : vs.length < 64)
    (h : ∀ (h' : Heap) (b : Addr) (vs' : List Value) (ns' : List Int) (e : Nat), (∀ b o, s.heap.get? b = some o → h'.get? b = some o) → s.heap.get? b = none → h'.get? b = some (seqObj "list" vs'.toArray e) → IntsAre vs' ns' → ns'.Perm ns → ns'.Pairwise (· ≤ ·) → Q (.ref b) { s with heap := h' }) :
    wpAny (model P.prog P.w) A (call (.builtin "sorted") [.ref a]) Q E s := by
  refine Calls.call_function_entry kind_sorted plain_sorted entry_sorted (args_sorted1 _) ?_
  unfold Builtin.«sorted»
  refine wpAny_bind (m := checkCount "sorted" 1 1 _) (wpAny_pure ?_)
  refine wpAny_bind (wpAny_collect_seq a hT ho hc hd (fun h₁ hk₁ => ?_) (by rw [List.size_toArray, sizeLine_eq]; (first | lia | omega)))
  refine wpAny_bind (wpAny_newList ?_ (by have : vs.toArray.toList.length = vs.length := rfl; have e := sizeLine_eq; (first | lia | omega)))
  have hoL : (h₁.push (seqObj "list" vs.toArray 0)).get? h₁.objs.size = some (seqObj "list" vs.toArray 0) := Heap.get?_push_size _ rfl
  refine wpAny_bind (wpAny_holding (wpAny_call_entry (s := { s with heap := h₁.push (seqObj "list" vs.toArray 0) }) slot_list_sort ⟨_, hoL, rfl⟩ entry_list_sort (list_sort_tree hoL hI h64 fun out ns' a1 a2 a3 => ⟨_, rfl, ?_⟩) (args_list_sort _)))
  refine wpAny_pure ⟨_, rfl, ?_⟩
  obtain ⟨e, he⟩ := sortedHeap_at (n := 0) (vs := vs) (out := out) hoL
  refine h _ _ out.toList ns' e (fun b o hb => ?_) ?_ he a1 a2 a3
  · have h2 := hk₁ b o hb
    have hlt := Heap.lt_size h2
    rw [sortedHeap_old (Nat.ne_of_lt hlt) (by rw [size_push']; exact Nat.lt_succ_of_lt hlt)]
    exact Heap.get?_push_of_some _ h2
  · cases q : s.heap.get? h₁.objs.size with
    | none => rfl
    | some o => exact absurd (Heap.lt_size (hk₁ _ _ q)) (Nat.lt_irrefl _)
theorem op_sorted (vs : List AV) (us : List Value) (hr : Reps vs us) : OpSim P D F (call (.builtin "sorted") us) (opSorted vs) := by
  intro σ s Q E R h
  match vs, hr, h with
  | [.ref l], hr, h =>
    obtain ⟨u, rfl, hu⟩ := hr.one
    subst hu
    obtain ⟨ns, h1, h64, h2⟩ := h
    have fin : ∀ (T : String) (hT : T = "list" ∨ T = "tuple") (vs : List Value) (n : Nat) (o : Obj), s.heap.get? l = some o → o.cls = .type T → o.data = .seq vs.toArray n → Reps (intsA ns) vs → wpAny (model P.prog P.w) F.A (call (.builtin "sorted") [.ref l]) (RE P D F Q) (RX P D F E) s := by
      intro T hT vs n o ho hc hd r
      refine sorted_seq hT ho hc hd r.ints (by rw [← r.length]; simpa using h64) fun h' b vs' ns' e hk hn hb a1 a2 a3 => ?_
      have R' := R.ext (t := s.toks) hk
      refine .ref (R.change (t := s.toks) (hp' := upd σ.hp b (.list (intsA ns'))) (fun _ => False) (fun _ x => x.elim) (fun b o _ e => hk b o e) fun c oc ec => ?_) (h2 b ns' (R.fresh hn).2 a2 a3)
      unfold upd at ec
      split at ec
      · rename_i q; subst q; cases ec
        exact .inr ⟨(R.fresh hn).1, rfl, ⟨vs', e, hb, intsA_of a1, by rw [List.length_map, a2.length_eq]; (first | lia | omega)⟩⟩
      · exact .inl ⟨ec, id⟩
    rcases h1 with h1 | h1
    · obtain ⟨vs, ⟨o, ho, hc, n, hd⟩, r, hz⟩ := R.isList h1
      exact fin "list" (.inl rfl) vs n o ho hc hd r
    · obtain ⟨vs, n, e, r, hz⟩ := R.tup h1
      exact fin "tuple" (.inr rfl) vs n _ e rfl rfl r

end
end
section
section
variable {P : PC} {D : FD} {F : FX} {σ : St} {s : Shared}

noncomputable def AObj.ty : AObj → Option String
  | .list _ => some "list"
  | .dict _ _ => some "dict"
  | .set _ _ => some "set"
  | _ => none
theorem ty_is (R : Rel P D F σ s) {a : Addr} {o : AObj} {T : String} (h : σ.hp a = some o) (hT : o.ty = some T) : s.TypeIs (.ref a) T ∧ ∃ ob, s.heap.get? a = some ob ∧ ob.dict = none := by
  have x := (R.hp a o h).1
  cases o <;> simp only [AObj.ty] at hT <;> cases hT
  · obtain ⟨vs, n, e, _⟩ := x; exact ⟨⟨_, e, rfl⟩, _, e, rfl⟩
  · obtain ⟨kvs, ⟨o, es, e, hx, _⟩, _⟩ := x; exact ⟨⟨o, e, hx.1⟩, o, e, hx.2.1⟩
  · obtain ⟨o, es, ep, t, e, hx, _⟩ := x; exact ⟨⟨o, e, hx.1⟩, o, e, hx.2.1⟩

noncomputable def pBm (T : String) (f : AV → List AV → EP) (o : EP) (p : LP) : EP := fun Q E σ => o (fun ov σ₁ => (∃ a ob, ov = .ref a ∧ σ₁.hp a = some ob ∧ ob.ty = some T) ∧ p (fun vs σ₂ => f ov vs Q E σ₂) E σ₁) E σ

theorem sim_bm {o : Expr} {x : Str} {apos pos : Pos} {args : List Expr} {T id : String} {po : EP} {p : LP} {f : AV → List AV → EP} (pa : PlainAttrs T) (slot : Slot T x id) (hty : typeOf (.builtin id) = pure (.type "method_descriptor")) (ho : SimE P D o po) (ha : SimAr P D args p)
    (hop : ∀ F, FOk P D F → ∀ ov vs u us, ov.rep u → Reps vs us → OpSim P D F (call (.builtin id) (u :: us)) (f ov vs))
    (hs : ∀ env, (backTo pos (starEach args env)).any (·.1) = false := by intro _; rfl)
    (hbase : ∀ env, attributeBase o x env (eval o env) = eval o env := by intro _; rfl)
    (hfew : ∀ env, methodCallForm (args.length + ([] : List Keyword).length) (backTo pos (starEach args env)) (backToKw pos (keywordEach [] env)) = true := by intro _; rfl)
    (hline : (apos.endLine == pos.line) = true := by rfl) : SimE P D (.Call (.Attribute o x apos) args [] pos) (pBm T f po p) := by
  intro F O σ s Q E R hp
  rw [arm_eval_Call, hbase]
  refine wpAny_bind (wpAny_mono (ho F O σ s _ E R hp) ?_ fun _ _ x => x)
  rintro ov s₁ ⟨av, σ₁, hav, R₁, ⟨a, ob, rfl, h1, h2⟩, h₁⟩
  subst hav
  refine wpAny_bind (wpAny_standAt ?_)
  have hpos : methodCallPos true o F.env apos pos = pure pos := by unfold methodCallPos; simp [hline]
  obtain ⟨t1, ob', t2, t3⟩ := ty_is R₁ h1 h2
  unfold methodCall
  rw [hfew]
  refine wpAny_bind (wpAny_holding (getMethod_builtin t1 pa slot hty (fun a' e => by cases e; exact ⟨ob', t2, t3⟩) ?_))
  refine wpAny_bind (wpAny_of_eq hpos ?_)
  refine callWith_builtin (hs _) (wpAny_mono (ha F O _ pos σ₁ s₁ _ E R₁ h₁) ?_ fun _ _ x => x)
  rintro ar s₂ ⟨hkw, vs, σ₂, hr, R₂, h₂⟩
  rw [hkw]
  exact hop F O (.ref a) vs (.ref a) ar.pos rfl hr σ₂ s₂ Q E R₂ h₂

noncomputable def opAppend : AV → List AV → EP
  | .ref a, [v] => fun Q _ σ => ∃ l, σ.hp a = some (.list l) ∧ l.length < 1000000 ∧ Q .none ⟨σ.loc, upd σ.hp a (.list (l ++ [v]))⟩
  | _, _ => fun _ _ _ => False
theorem op_append (ov : AV) (vs : List AV) (u : Value) (us : List Value) (hu : ov.rep u) (hr : Reps vs us) : OpSim P D F (call (.builtin "list.append") (u :: us)) (opAppend ov vs) := by
  intro σ s Q E R h
  match ov, vs, hu, hr, h with
  | .ref a, [v], hu, hr, h =>
    obtain ⟨w, rfl, hv⟩ := hr.one
    subst hu
    obtain ⟨l, h1, h2, h3⟩ := h
    obtain ⟨xs, n, e, r, hz⟩ := R.plain h1
    have hl := r.length
    refine wpAny_list_append_plain (items := xs.toArray) ⟨n, e⟩ (fun h' hp' hs' => ?_) (by rw [List.size_toArray, sizeLine_eq]; (first | lia | omega))
    obtain ⟨n', e'⟩ := hp'
    refine .none (R.set (o' := .list (l ++ [v])) (t := s.toks) h1 rfl hs' rfl ⟨xs ++ [w], n', e'.trans (by simp [W.listOf]), r.append ⟨hv, trivial⟩, by rw [List.length_append]; simp; (first | lia | omega)⟩) h3

theorem upd_seq (R : Rel P D F σ s) {a : Addr} {l l' : List AV} {xs xs' : List Value} {n t : Nat} {f : Array Value → Array Value} (h1 : σ.hp a = some (.list l)) (e : s.heap.get? a = some (W.listOf xs.toArray n)) (hf : f xs.toArray = xs'.toArray) (hr : Reps l' xs') (hz : l'.length ≤ 1000000) :
    Rel P D F ⟨σ.loc, upd σ.hp a (.list l')⟩ { s with heap := s.heap.update a (Obj.mapSeq f), toks := t } := R.setList h1 e hf hr hz

noncomputable def opExtend : AV → List AV → EP
  | .ref a, [.ref b] => fun Q _ σ => ∃ l m, σ.hp a = some (.list l) ∧ (σ.hp b = some (.list m) ∨ σ.hp b = some (.tup m)) ∧ l.length + m.length ≤ 1000000 ∧ Q .none ⟨σ.loc, upd σ.hp a (.list (l ++ m))⟩
  | _, _ => fun _ _ _ => False
noncomputable def opClear : AV → List AV → EP
  | .ref a, [] => fun Q _ σ => ∃ l, σ.hp a = some (.list l) ∧ Q .none ⟨σ.loc, upd σ.hp a (.list [])⟩
  | _, _ => fun _ _ _ => False
theorem op_clear (ov : AV) (vs : List AV) (u : Value) (us : List Value) (hu : ov.rep u) (hr : Reps vs us) : OpSim P D F (call (.builtin "list.clear") (u :: us)) (opClear ov vs) := by
  intro σ s Q E R h
  match ov, vs, hu, hr, h with
  | .ref a, [], hu, hr, h =>
    cases hr.nil_inv
    subst hu
    obtain ⟨l, h1, h3⟩ := h
    obtain ⟨xs, n, e, r, hz⟩ := R.plain h1
    have hl := r.length
    refine call_meets PySem.F.slot_list_clear ⟨_, e, rfl⟩ PySem.F.entry_list_clear (PySem.F.args_list_clear_1 _) (PySem.AutoSeq1.list_clear_list_0 a xs.toArray n (by rw [List.size_toArray, sizeLine_eq]; (first | lia | omega))) ⟨e, ?_⟩
    exact RE.none (upd_seq R (l' := []) (xs' := []) h1 e rfl trivial (by simp)) h3

noncomputable def opPop : AV → List AV → EP
  | .ref a, [] => fun Q _ σ => ∃ l v, σ.hp a = some (.list (l ++ [v])) ∧ Q v ⟨σ.loc, upd σ.hp a (.list l)⟩
  | .ref a, [.int i] => fun Q _ σ => ∃ l v, σ.hp a = some (.list l) ∧ 0 ≤ i ∧ l[i.toNat]? = some v ∧ Q v ⟨σ.loc, upd σ.hp a (.list (l.eraseIdx i.toNat))⟩
  | _, _ => fun _ _ _ => False
theorem erase_arr (xs : List Value) (k : Nat) : xs.toArray.eraseIdxIfInBounds k = (xs.eraseIdx k).toArray := by
  apply Array.toList_inj.mp
  rw [Array.toList_eraseIdxIfInBounds]
theorem op_pop (ov : AV) (vs : List AV) (u : Value) (us : List Value) (hu : ov.rep u) (hr : Reps vs us) : OpSim P D F (call (.builtin "list.pop") (u :: us)) (opPop ov vs) := by
  intro σ s Q E R h
  match ov, vs, hu, hr, h with
  | .ref a, [], hu, hr, h =>
    cases hr.nil_inv
    subst hu
    obtain ⟨l, v, h1, h3⟩ := h
    obtain ⟨xs, n, e, r, hz⟩ := R.plain h1
    have hl := r.length
    rw [List.length_append, List.length_singleton] at hl hz
    obtain ⟨y, hy, hv⟩ := r.get l.length (a := v) (by simp)
    have hsz : xs.toArray.size - 1 = l.length := by rw [List.size_toArray]; (first | lia | omega)
    refine call_meets PySem.F.slot_list_pop ⟨_, e, rfl⟩ PySem.F.entry_list_pop (PySem.F.args_list_pop_1 _) (PySem.MeetsSeq.list_pop_last a xs.toArray n y (by rw [hsz]; simpa using hy) (by rw [List.size_toArray, sizeLine_eq]; (first | lia | omega))) ⟨e, ?_⟩
    refine ⟨v, _, hv, upd_seq R (l' := l) (xs' := xs.eraseIdx l.length) (t := s.toks) h1 e (by rw [hsz]; exact erase_arr _ _) ?_ (by (first | lia | omega)), h3⟩
    have := r.eraseIdx l.length
    rwa [List.eraseIdx_append_of_length_le (Nat.le_refl _), Nat.sub_self, List.eraseIdx_zero, List.tail_cons, List.append_nil] at this
  | .ref a, [.int i], hu, hr, h =>
    obtain ⟨w, rfl, t, hw⟩ := hr.one
    subst hu hw
    obtain ⟨l, v, h1, h0, h2, h3⟩ := h
    obtain ⟨xs, n, e, r, hz⟩ := R.plain h1
    have hl := r.length
    obtain ⟨y, hy, hv⟩ := r.get i.toNat h2
    have hlt : i.toNat < l.length := (List.getElem?_eq_some_iff.mp h2).1
    have hfit : Builtin.List.listFitsIndex i = true := by
      unfold Builtin.List.listFitsIndex
      simp only [Bool.and_eq_true, decide_eq_true_eq]; (first | lia | omega)
    have hidx : seqIndex? i xs.toArray.size = some i.toNat := by
      have h5 : ¬ i < 0 := by (first | lia | omega)
      have h6 : (decide (0 ≤ i) && decide (i < (xs.toArray.size : Int))) = true := by rw [List.size_toArray]; simp only [Bool.and_eq_true, decide_eq_true_eq]; (first | lia | omega)
      simp only [seqIndex?, if_neg h5, if_pos h6]
    refine call_meets PySem.F.slot_list_pop ⟨_, e, rfl⟩ PySem.F.entry_list_pop (PySem.F.args_list_pop_2 _ _) (PySem.MeetsSeq.list_pop_at a xs.toArray n i t _ y hfit hidx (by simpa using hy) (by rw [List.size_toArray, sizeLine_eq]; (first | lia | omega))) ⟨e, ?_⟩
    exact ⟨v, _, hv, upd_seq R (xs' := xs.eraseIdx i.toNat) (t := s.toks) h1 e (erase_arr _ _) (r.eraseIdx _) (by have := List.length_eraseIdx_le l i.toNat; (first | lia | omega)), h3⟩


theorem Reps.mem : ∀ {ns : List Int} {vs : List Value}, Reps (intsA ns) vs → ∀ y ∈ vs, ∃ n t, y = .int n t ∧ n ∈ ns
  | [], [], _, _, h => by cases h
  | n :: ns, v :: vs, ⟨⟨t, e⟩, r⟩, y, h => by
    rcases List.mem_cons.mp h with rfl | h
    · exact ⟨n, t, e, List.mem_cons_self ..⟩
    · obtain ⟨n', t', h1, h2⟩ := Reps.mem r y h
      exact ⟨n', t', h1, List.mem_cons_of_mem _ h2⟩
  | [], _ :: _, h, _, _ => h.elim
  | _ :: _, [], h, _, _ => h.elim
noncomputable def isI (x : Int) : Value → Bool
  | .int n _ => n == x
  | _ => false
theorem eqGives {ns : List Int} {vs : List Value} (r : Reps (intsA ns) vs) (x : Int) (t : Tok) : ∀ y, y ∈ vs.toArray → PySem.MeetsSeq.EqGives y (.int x t) (isI x y) := by
  intro y hy
  obtain ⟨n, t', rfl, _⟩ := r.mem y (by simpa using hy)
  exact PySem.MeetsSeq.EqGives.int n x t' t
noncomputable def opCount : AV → List AV → EP
  | .ref a, [.int x] => fun Q _ σ => ∃ ns, σ.hp a = some (.list (intsA ns)) ∧ Q (.int (ns.count x)) σ
  | _, _ => fun _ _ _ => False
theorem isI_get {ns : List Int} {vs : List Value} (r : Reps (intsA ns) vs) (x : Int) {j : Nat} (hj : j < vs.length) : isI x vs[j] = ((ns.getD j 0) == x) := by
  obtain ⟨a, ha, hrep⟩ := r.get' j (List.getElem?_eq_getElem hj)
  rw [List.getElem?_map] at ha
  obtain ⟨n, hn, rfl⟩ := Option.map_eq_some_iff.mp ha
  obtain ⟨t, e⟩ := hrep
  rw [e, List.getD_eq_getElem?_getD, hn]
  rfl
noncomputable def opIndex : AV → List AV → EP
  | .ref a, [.int x] => fun Q _ σ => ∃ ns, σ.hp a = some (.list (intsA ns)) ∧ x ∈ ns ∧ Q (.int (ns.idxOf x)) σ
  | _, _ => fun _ _ _ => False
theorem op_index (ov : AV) (vs : List AV) (u : Value) (us : List Value) (hu : ov.rep u) (hr : Reps vs us) : OpSim P D F (call (.builtin "list.index") (u :: us)) (opIndex ov vs) := by
  intro σ s Q E R h
  match ov, vs, hu, hr, h with
  | .ref a, [.int x], hu, hr, h =>
    obtain ⟨w, rfl, t, hw⟩ := hr.one
    subst hu hw
    obtain ⟨ns, h1, h2, h3⟩ := h
    obtain ⟨xs, n, e, r, hz⟩ := R.plain h1
    have hl : ns.length = xs.length := by have := r.length; simpa using this
    have hlt : ns.idxOf x < ns.length := List.idxOf_lt_length_iff.mpr h2
    rw [List.length_map] at hz
    refine call_meets PySem.F.slot_list_index ⟨_, e, rfl⟩ PySem.F.entry_list_index (PySem.F.args_list_index_2 _ _) (PySem.MeetsSeq.list_index a xs.toArray n (.int x t) (isI x) (eqGives r x t) (ns.idxOf x) (by rw [List.size_toArray]; (first | lia | omega)) (by (first | lia | omega)) ?_ ?_) ⟨e, RE.int R.toks h3⟩
    · show isI x (xs[ns.idxOf x]'(by (first | lia | omega))) = true
      rw [isI_get r x (by (first | lia | omega)), List.getD_eq_getElem?_getD, List.getElem?_eq_getElem hlt]
      simp
    · intro m hm hlt'
      have hm' : m < xs.length := by simpa using hm
      show isI x (xs[m]'hm') = false
      rw [isI_get r x hm', List.getD_eq_getElem?_getD, List.getElem?_eq_getElem (by (first | lia | omega))]
      simp only [Option.getD_some]
      have := List.not_of_lt_findIdx (p := (· == x)) (xs := ns) (by exact hlt')
      simpa using this

-- d.get(k)
noncomputable def opGet : AV → List AV → EP
  | .ref a, [.int k] => fun Q _ σ => ∃ es ep, σ.hp a = some (.dict es ep) ∧ Q (((es.find? fun e => e.1 = k).map (·.2)).getD .none) σ
  | _, _ => fun _ _ _ => False
theorem dict_value_none : ∀ {es : List (Int × AV)} {kvs : List (Int × Value)} (_ : dictEs es kvs) (k : Int), (es.find? fun e => e.1 = k).map (·.2) = none → valueAt kvs k = none
  | [], [], _, _, _ => rfl
  | e :: es, x :: kvs, ⟨h1, h2⟩, k, h => by
    simp only [List.map_cons, List.cons.injEq] at h1
    obtain ⟨h3, h4⟩ := h2
    unfold valueAt
    rw [List.find?_cons] at h ⊢
    rw [h1.1]
    by_cases hk : e.1 = k
    · simp [hk] at h
    · simp only [hk, decide_false] at h ⊢
      exact dict_value_none ⟨h1.2, h4⟩ k h
  | [], _ :: _, ⟨h1, _⟩, _, _ => by simp at h1
  | _ :: _, [], ⟨h1, _⟩, _, _ => by simp at h1
theorem op_get (ov : AV) (vs : List AV) (u : Value) (us : List Value) (hu : ov.rep u) (hr : Reps vs us) : OpSim P D F (call (.builtin "dict.get") (u :: us)) (opGet ov vs) := by
  intro σ s Q E R h
  match ov, vs, hu, hr, h with
  | .ref a, [.int k], hu, hr, h =>
    obtain ⟨w, rfl, t, hw⟩ := hr.one
    subst hu hw
    obtain ⟨es, ep, h1, h3⟩ := h
    obtain ⟨kvs, hd, hes, hsys, hz⟩ := (R.hp a _ h1).1
    have key : ∃ av : AV, ((es.find? fun e => e.1 = k).map (·.2)).getD .none = av ∧ av.rep ((valueAt kvs k).getD .none) := by
      cases q : (es.find? fun e => e.1 = k).map (·.2) with
      | none => rw [dict_value_none hes k q]; exact ⟨.none, rfl, rfl⟩
      | some v => obtain ⟨u', h4, h5⟩ := dict_value hes k q; rw [h4]; exact ⟨v, rfl, h5⟩
    obtain ⟨av, e1, e2⟩ := key
    rw [e1] at h3
    exact call_meetsIn PySem.F.slot_dict_get hd.dictOf.typeIs PySem.F.entry_dict_get (PySem.F.args_dict_get_2 _ _) (meets_dict_get (intKind P.prog P.w) a (k := k) (key := .int k t) (by simp [intKind, Value.isInt]) hsys) ⟨_, hd.dictOf.mapOf, av, σ, e2, R.toks, h3⟩

-- sets
noncomputable def opAdd' : AV → List AV → EP
  | .ref a, [.int k] => fun Q _ σ => ∃ S n, σ.hp a = some (.set S n) ∧ n < 4000 ∧ Q .none ⟨σ.loc, upd σ.hp a (.set (fun k' => S k' || decide (k' = k)) (if S k then n else n + 1))⟩
  | _, _ => fun _ _ _ => False

theorem op_setAdd (ov : AV) (vs : List AV) (u : Value) (us : List Value) (hu : ov.rep u) (hr : Reps vs us) : OpSim P D F (call (.builtin "set.add") (u :: us)) (opAdd' ov vs) := by
  intro σ s Q E R h
  match ov, vs, hu, hr, h with
  | .ref a, [.int k], hu, hr, h =>
    obtain ⟨w, rfl, t, hw⟩ := hr.one
    subst hu hw
    obtain ⟨S, n, h1, h2, h3⟩ := h
    have hS := (R.hp a _ h1).1
    refine call_set_add (knd := intKind P.prog P.w) (k := k) (by simp [intKind, Value.isInt]) rfl hS (by unfold scanBound; (first | lia | omega)) fun h' hs hS' => ?_
    exact RE.none (R.set (o' := .set _ _) h1 rfl hs rfl hS') h3

noncomputable def opSet0 : EP := fun Q _ σ => ∀ a, σ.hp a = none → Q (.ref a) ⟨σ.loc, upd σ.hp a (.set (fun _ => false) 0)⟩
theorem sim_set0 {x : Str} {np pos : Pos} (hx : x ∈ D.globs) (hf : freeName P x) (hv : bootBuiltins x = some (.type "set")) (hd : (x == ("__debug__" : Str)) = false := by decide) : SimE P D (.Call (.Name x np) [] [] pos) opSet0 := by
  intro F O σ s Q E R hp
  refine wpAny_Call_ofName (glob_bi O R hx hf hv ?_ hd)
  obtain ⟨m, Fm, hm⟩ := R.fr
  refine callWith_type0 (newSet_N Fm (news_all F.L s.heap) fun h' led F' N' => ?_)
  refine .ref (R.pushed O (o := .set (fun _ => false) 0) (t := s.toks) hm F' N' rfl fun e => ?_) (hp _ (R.fresh (heap_size_none _)).2)
  exact (setObjOf_fresh led).setOf e (by unfold scanBound; (first | lia | omega))

end
end
section
section
variable {P : PC} {D : FD} {F : FX} {σ : St} {s : Shared}

theorem lets_of {A : Around} {I : Addr} {o : Obj} {n : String} {t : Expr} {u : Value} {Q : Unit → Shared → Prop} {E : Value → Shared → Prop} (ho : s.heap.get? I = some o) (hc : o.cls = .type n)
    (hn : (["enumerate", "zip", "dict_itemiterator", "dict_reverseitemiterator", "odict_iterator", "itertools.zip_longest", "itertools.pairwise"].contains n) = false) (h : Q () s) : wpAny (model P.prog P.w) A (letOwnedTupleGo t (.ref I) u) Q E s := by
  have main : ∀ (b : Addr), wpAny (model P.prog P.w) A (do
      let o ← load I
      match o.cls, o.data with
      | .type n, .fields vs =>
        if ["enumerate", "zip", "dict_itemiterator", "dict_reverseitemiterator", "odict_iterator", "itertools.zip_longest", "itertools.pairwise"].contains n && vs[0]? == some (rawInt b) then
          rule "for.unpacks-the-owned-tuple"
          updateField I 0 .none
      | _, _ => pure ()) Q E s := by
    intro b
    refine wpAny_bind (wpAny_load ho ?_)
    rw [hc]
    split
    · rename_i n' vs h1 h2
      cases h1
      rw [hn]
      exact wpAny_pure h
    · exact wpAny_pure h
  unfold letOwnedTupleGo
  split
  · cases u with
    | ref b => exact main b
    | _ => exact wpAny_pure h
  · cases u with
    | ref b => exact main b
    | _ => exact wpAny_pure h
  · exact wpAny_pure h

theorem itOk_list {A : Around} (hh : A.handled = none) {I a : Addr} {items : List AV} : ItOk P D A I items (fun σ => σ.lst a = some items) (fun i o => o.cls = .type "list_iterator" ∧ o.data = .fields #[.ref a, .int i 0]) where
  noCell := fun i o h v hv => by rw [h.2] at hv; cases hv
  self := fun i o s Q E h hI hq => wpAny_pyIter_listiter ⟨o, hI, h⟩ hq
  lets := fun i o t u s Q E h hI hq => lets_of hI h.1 (by decide) hq
  next := fun F σ s i o v Q E hA R hg hI ho hv h => by
    obtain ⟨vs, e, r, hz⟩ := R.isList hg
    obtain ⟨u, hu, hrep⟩ := r.get i hv
    refine wpAny_pyNext_list_item ⟨o, hI, ho⟩ e (by simpa using hu) fun h' hi' hs => ?_
    obtain ⟨o', ho', hc'⟩ := hi'
    exact h u h' s.toks o' hrep (fun b ob ne e => (hs.2 b ne).trans e) ho' hc'
  done := fun F σ s i o Q E hA R hg hI ho hv h => by
    obtain ⟨vs, e, r, hz⟩ := R.isList hg
    have hlen := r.length
    have : vs[i]? = none := by rw [List.getElem?_eq_none_iff] at hv ⊢; (first | lia | omega)
    exact wpAny_pyNext_list_end hh ⟨o, hI, ho⟩ e (by simpa using this) fun h' hx => h h' s.toks fun b ob ne e => hx b ob ne e

theorem itOk_tup {A : Around} (hh : A.handled = none) {I a : Addr} {items : List AV} : ItOk P D A I items (fun σ => σ.hp a = some (.tup items)) (fun i o => o.cls = .type "tuple_iterator" ∧ o.data = .fields #[.ref a, .int i 0]) where
  noCell := fun i o h v hv => by rw [h.2] at hv; cases hv
  self := fun i o s Q E h hI hq => wpAny_pyIter_tupleiter ⟨o, hI, h⟩ hq
  lets := fun i o t u s Q E h hI hq => lets_of hI h.1 (by decide) hq
  next := fun F σ s i o v Q E hA R hg hI ho hv h => by
    obtain ⟨vs, n, e, r, hz⟩ := R.tup hg
    obtain ⟨u, hu, hrep⟩ := r.get i hv
    refine wpAny_pyNext_tuple_item (items := vs.toArray) ⟨o, hI, ho⟩ ⟨_, e, rfl, n, rfl⟩ (by simpa using hu) fun h' hi' hs => ?_
    obtain ⟨o', ho', hc'⟩ := hi'
    exact h u h' s.toks o' hrep (fun b ob ne e => (hs.2 b ne).trans e) ho' hc'
  done := fun F σ s i o Q E hA R hg hI ho hv h => by
    obtain ⟨vs, n, e, r, hz⟩ := R.tup hg
    have hlen := r.length
    have : vs[i]? = none := by rw [List.getElem?_eq_none_iff] at hv ⊢; (first | lia | omega)
    exact wpAny_pyNext_tuple_end (items := vs.toArray) hh ⟨o, hI, ho⟩ ⟨_, e, rfl, n, rfl⟩ (by simpa using this) fun h' hx => h h' s.toks fun b ob ne e => hx b ob ne e

noncomputable def rangeL (a : Int) (c : Int) (n : Nat) : List Int := (List.range n).map fun (i : Nat) => a + (i : Int) * c
theorem itOk_range {A : Around} (hh : A.handled = none) {I : Addr} {a c : Int} {n : Nat} : ItOk P D A I (intsA (rangeL a c n)) (fun _ => True) (fun i o => i ≤ n ∧ o = { cls := .type "range_iterator", dict := none, data := .fields #[rawInt (a + (i : Int) * c), rawInt ((n : Int) - i), rawInt c], slots := #[] }) where
  noCell := fun i o h v hv => by rw [h.2] at hv; cases hv
  self := fun i o s Q E h hI hq => by rw [h.2] at hI; exact wpAny_pyIter_rangeiter hI hq
  lets := fun i o t u s Q E h hI hq => lets_of (n := "range_iterator") hI (by rw [h.2]) (by decide) hq
  next := fun F σ s i o v Q E hA R hg hI ho hv h => by
    have hlt : i < n := by
      have := (List.getElem?_eq_some_iff.mp hv).1
      simpa [rangeL] using this
    have hv' : v = .int (a + (i : Int) * c) := by
      have : (intsA (rangeL a c n))[i]? = some (.int (a + (i : Int) * c)) := by simp [rangeL, hlt]
      rw [hv] at this; exact Option.some.inj this
    subst hv'
    rw [ho.2] at hI
    refine wpAny_pyNext_range_item hI (by (first | lia | omega)) fun h' hi' hs => ?_
    refine h _ h' (s.toks + 1) _ ⟨_, rfl⟩ (fun b ob ne e => (hs.2 b ne).trans e) hi' ⟨by (first | lia | omega), ?_⟩
    have e1 : a + (i : Int) * c + c = a + ((i + 1 : Nat) : Int) * c := by rw [Int.natCast_add, Int.add_mul]; (first | lia | omega)
    have e2 : (n : Int) - i - 1 = (n : Int) - ((i + 1 : Nat) : Int) := by (first | lia | omega)
    rw [e1, e2]
  done := fun F σ s i o Q E hA R hg hI ho hv h => by
    have hle : n ≤ i := by
      have := List.getElem?_eq_none_iff.mp hv
      simpa [rangeL] using this
    rw [ho.2] at hI
    exact wpAny_pyNext_range_end hh hI (by (first | lia | omega)) fun h' hx => h h' s.toks fun b ob ne e => hx b ob ne e

theorem dictEs_get : ∀ {es : List (Int × AV)} {kvs : List (Int × Value)} (_ : dictEs es kvs) (i : Nat) {k : Int} {v : AV}, es[i]? = some (k, v) → ∃ u, kvs[i]? = some (k, u) ∧ v.rep u
  | [], [], _, _, _, _, h => by simp at h
  | e :: es, x :: kvs, ⟨h1, h2⟩, 0, k, v, h => by
    simp only [List.map_cons, List.cons.injEq] at h1
    simp at h
    subst h
    exact ⟨x.2, by rw [List.getElem?_cons_zero]; exact congrArg some (Prod.ext h1.1 rfl), h2.1⟩
  | e :: es, x :: kvs, ⟨h1, h2⟩, i + 1, k, v, h => by
    simp only [List.map_cons, List.cons.injEq] at h1
    simpa using dictEs_get ⟨h1.2, h2.2⟩ i (by simpa using h)
  | [], _ :: _, ⟨h1, _⟩, _, _, _, _ => by simp at h1
  | _ :: _, [], ⟨h1, _⟩, _, _, _, _ => by simp at h1

theorem itOk_keys {A : Around} (hh : A.handled = none) {I a : Addr} {es : List (Int × AV)} {ep : Nat} : ItOk P D A I (intsA (es.map (·.1))) (fun σ => σ.hp a = some (.dict es ep)) (fun i o => o.cls = .type "dict_keyiterator" ∧ o.data = .fields #[.ref a, .int i 0, .int es.length 0, .int ep 0]) where
  noCell := fun i o h v hv => by rw [h.2] at hv; cases hv
  self := fun i o s Q E h hI hq => wpAny_pyIter_keyiter ⟨o, hI, h⟩ hq
  lets := fun i o t u s Q E h hI hq => lets_of hI h.1 (by decide) hq
  next := fun F σ s i o v Q E hA R hg hI ho hv h => by
    obtain ⟨kvs, hd, hes, _⟩ := (R.hp a _ hg).1
    have hl := dictEs_len hes
    obtain ⟨kv, hkv, rfl⟩ : ∃ kv, es[i]? = some kv ∧ v = .int kv.1 := by
      rw [List.getElem?_map, List.getElem?_map] at hv
      cases q : es[i]? with
      | none => rw [q] at hv; cases hv
      | some kv => rw [q] at hv; exact ⟨kv, rfl, (Option.some.inj hv).symm⟩
    obtain ⟨u, hu, hrep⟩ := dictEs_get hes i hkv
    refine wpAny_pyNext_dict_item (knd := intKind P.prog P.w) (ep := ep) ⟨o, hI, ho.1, by rw [hl]; exact ho.2⟩ hd hu fun key h' hkey hi' hs => ?_
    obtain ⟨t, rfl⟩ := Value.isInt_shape hkey
    obtain ⟨o', ho', hc', hd'⟩ := hi'
    exact h _ h' s.toks o' ⟨t, rfl⟩ (fun b ob ne e => (hs.2 b ne).trans e) ho' ⟨hc', by rw [← hl]; exact hd'⟩
  done := fun F σ s i o Q E hA R hg hI ho hv h => by
    obtain ⟨kvs, hd, hes, _⟩ := (R.hp a _ hg).1
    have hl := dictEs_len hes
    have : kvs[i]? = none := by
      rw [List.getElem?_eq_none_iff] at hv ⊢
      simp at hv; (first | lia | omega)
    exact wpAny_pyNext_dict_end (knd := intKind P.prog P.w) (ep := ep) hh ⟨o, hI, ho.1, by rw [hl]; exact ho.2⟩ hd this fun h' hx => h h' s.toks fun b ob ne e => hx b ob ne e
theorem itOk_vals {A : Around} (hh : A.handled = none) {I a : Addr} {es : List (Int × AV)} {ep : Nat} : ItOk P D A I (es.map (·.2)) (fun σ => σ.hp a = some (.dict es ep)) (fun i o => o.cls = .type "dict_valueiterator" ∧ o.data = .fields #[.ref a, .int i 0, .int es.length 0, .int ep 0]) where
  noCell := fun i o h v hv => by rw [h.2] at hv; cases hv
  self := fun i o s Q E h hI hq => wpAny_pyIter_valiter ⟨o, hI, h⟩ hq
  lets := fun i o t u s Q E h hI hq => lets_of hI h.1 (by decide) hq
  next := fun F σ s i o v Q E hA R hg hI ho hv h => by
    obtain ⟨kvs, hd, hes, _⟩ := (R.hp a _ hg).1
    have hl := dictEs_len hes
    obtain ⟨kv, hkv, rfl⟩ : ∃ kv, es[i]? = some kv ∧ v = kv.2 := by
      rw [List.getElem?_map] at hv
      cases q : es[i]? with
      | none => rw [q] at hv; cases hv
      | some kv => rw [q] at hv; exact ⟨kv, rfl, (Option.some.inj hv).symm⟩
    obtain ⟨u, hu, hrep⟩ := dictEs_get hes i hkv
    refine wpAny_pyNext_values_item (knd := intKind P.prog P.w) (ep := ep) ⟨o, hI, ho.1, by rw [hl]; exact ho.2⟩ hd hu fun h' hi' hs => ?_
    obtain ⟨o', ho', hc', hd'⟩ := hi'
    exact h _ h' s.toks o' hrep (fun b ob ne e => (hs.2 b ne).trans e) ho' ⟨hc', by rw [← hl]; exact hd'⟩
  done := fun F σ s i o Q E hA R hg hI ho hv h => by
    obtain ⟨kvs, hd, hes, _⟩ := (R.hp a _ hg).1
    have hl := dictEs_len hes
    have : kvs[i]? = none := by
      rw [List.getElem?_eq_none_iff] at hv ⊢
      simp at hv; (first | lia | omega)
    exact wpAny_pyNext_values_end (knd := intKind P.prog P.w) (ep := ep) hh ⟨o, hI, ho.1, by rw [hl]; exact ho.2⟩ hd this fun h' hx => h h' s.toks fun b ob ne e => hx b ob ne e

-- what is gone over
noncomputable def iSeq (p : EP) : IP := fun Q E σ => p (fun v σ₁ => ∃ a, v = .ref a ∧ ((∃ l, σ₁.lst a = some l ∧ Q l (fun σ => σ.lst a = some l) σ₁) ∨ (∃ l, σ₁.hp a = some (.tup l) ∧ Q l (fun σ => σ.hp a = some (.tup l)) σ₁) ∨
  (∃ es ep, σ₁.hp a = some (.dict es ep) ∧ Q (intsA (es.map (·.1))) (fun σ => σ.hp a = some (.dict es ep)) σ₁))) E σ
theorem Rel.pushU (R : Rel P D F σ s) (ob : Obj) : Rel P D F σ { s with heap := s.heap.push ob } := R.ext (t := s.toks) fun _ _ e => Heap.get?_push_of_some _ e
theorem iSeq_at (O : FOk P D F) (hc : D.calm = true) {Q : List AV → (St → Prop) → St → Prop} {E : Ex → St → Prop} {v : AV} {u : Value} (hv : v.rep u) (R : Rel P D F σ s)
    (h : ∃ a, v = .ref a ∧ ((∃ l, σ.lst a = some l ∧ Q l (fun σ => σ.lst a = some l) σ) ∨ (∃ l, σ.hp a = some (.tup l) ∧ Q l (fun σ => σ.hp a = some (.tup l)) σ) ∨ (∃ es ep, σ.hp a = some (.dict es ep) ∧ Q (intsA (es.map (·.1))) (fun σ => σ.hp a = some (.dict es ep)) σ))) :
    wpAny (model P.prog P.w) F.A (pyIter u) (RI P D F Q) (RX P D F E) s := by
  obtain ⟨a, rfl, ⟨l, h1, h2⟩ | ⟨l, h1, h2⟩ | ⟨es, ep, h1, h2⟩⟩ := h
  · subst hv
    obtain ⟨vs, e, r, hz⟩ := R.isList h1
    have hne : a ≠ s.heap.objs.size := by obtain ⟨o, ho, _⟩ := e; exact Nat.ne_of_lt (Heap.lt_size ho)
    refine wpAny_pyIter_list e ⟨s.heap.objs.size, l, _, _, σ, _, rfl, R.pushU _, R.fresh (heap_size_none _), Heap.get?_push_size _ rfl, ⟨rfl, rfl⟩, fun _ => itOk_list (O.hh hc), h2⟩
  · subst hv
    obtain ⟨vs, n, e, r, hz⟩ := R.tup h1
    exact wpAny_pyIter_tuple (items := vs.toArray) ⟨_, e, rfl, n, rfl⟩ ⟨s.heap.objs.size, l, _, _, σ, _, rfl, R.pushU _, R.fresh (heap_size_none _), Heap.get?_push_size _ rfl, ⟨rfl, rfl⟩, fun _ => itOk_tup (O.hh hc), h2⟩
  · subst hv
    obtain ⟨kvs, hd, hes, hsys, _⟩ := (R.hp a _ h1).1
    have hl := dictEs_len hes
    exact wpAny_pyIter_dict (knd := intKind P.prog P.w) hsys hd ⟨s.heap.objs.size, _, _, _, σ, _, rfl, R.pushU _, R.fresh (heap_size_none _), Heap.get?_push_size _ rfl, ⟨rfl, by rw [hl]; rfl⟩, fun _ => itOk_keys (O.hh hc), h2⟩
theorem sim_iSeq {e : Expr} {p : EP} (h : SimE P D e p) (hc : D.calm = true := by rfl) : SimI P D e (iSeq p) := by
  intro F O σ s Q E R hp
  refine wpAny_mono (h F O σ s _ E R hp) ?_ fun _ _ x => x
  rintro u s₁ ⟨v, σ₁, hv, R₁, h₁⟩
  exact iSeq_at O hc hv R₁ h₁

noncomputable def rangeOf : List AV → Option (List Int)
  | [.int n] => if -1000000 ≤ n ∧ n ≤ 1000000 then some (rangeL 0 1 n.toNat) else none
  | [.int a, .int b] => if -1000000 ≤ a ∧ a ≤ 1000000 ∧ b ≤ 1000000 ∧ -1000000 ≤ b then some (rangeL a 1 (b - a).toNat) else none
  | [.int a, .int b, .int c] => if c = -1 ∧ -1000000 ≤ a ∧ a ≤ 1000000 ∧ b ≤ 1000000 ∧ -1000000 ≤ b then some (rangeL a (-1) (a - b).toNat) else none
  | _ => none
noncomputable def iRange (p : LP) : IP := fun Q E σ => p (fun vs σ₁ => ∃ ns, rangeOf vs = some ns ∧ Q (intsA ns) (fun _ => True) σ₁) E σ

theorem range_small {a b : Int} (h1 : -1000000 ≤ a) (h2 : a ≤ 1000000) (h3 : -1000000 ≤ b) (h4 : b ≤ 1000000) : Builtin.Range.rangeSize a b 1 = ((b - a).toNat : Int) ∧ Builtin.Range.small a b 1 = true := by
  have hs : Builtin.Range.rangeSize a b 1 = ((b - a).toNat : Int) := by
    unfold Builtin.Range.rangeSize
    simp only [show (1 : Int) > 0 by decide, if_true]
    split <;> (first | lia | omega)
  refine ⟨hs, ?_⟩
  unfold Builtin.Range.small
  rw [hs]
  simp only [Builtin.Range.rangeFitsLong, Bool.and_eq_true, decide_eq_true_eq, Bool.or_eq_true, show (1 : Int) > 0 by decide, if_true, beq_iff_eq]
  refine ⟨⟨⟨⟨by (first | lia | omega), by (first | lia | omega)⟩, by (first | lia | omega)⟩, by (first | lia | omega)⟩, .inr (by (first | lia | omega))⟩
theorem range_smallD {a b : Int} (h1 : -1000000 ≤ a) (h2 : a ≤ 1000000) (h3 : -1000000 ≤ b) (h4 : b ≤ 1000000) : Builtin.Range.rangeSize a b (-1) = ((a - b).toNat : Int) ∧ Builtin.Range.small a b (-1) = true := by
  have hs : Builtin.Range.rangeSize a b (-1) = ((a - b).toNat : Int) := by
    unfold Builtin.Range.rangeSize
    simp only [show ¬ ((-1 : Int) > 0) by decide, if_false]
    split <;> simp <;> (first | lia | omega)
  refine ⟨hs, ?_⟩
  unfold Builtin.Range.small
  rw [hs]
  simp only [Builtin.Range.rangeFitsLong, Bool.and_eq_true, decide_eq_true_eq, Bool.or_eq_true, show ¬ ((-1 : Int) > 0) by decide, if_false, beq_iff_eq]
  refine ⟨⟨⟨⟨by (first | lia | omega), by (first | lia | omega)⟩, by (first | lia | omega)⟩, by (first | lia | omega)⟩, .inr (by (first | lia | omega))⟩

theorem range_call {F : FX} {σ : St} {s : Shared} (R : Rel P D F σ s) {vs : List AV} {us : List Value} (hr : Reps vs us) {ns : List Int} (h : rangeOf vs = some ns) {Q : Value → Shared → Prop} {E : Value → Shared → Prop}
    (hq : ∀ (h' : Heap) (tk : Nat) (r : Addr) (a b c : Int) (t u v : Tok) (n : Nat), IsRange h' r a b c t u v → (∀ b o, s.heap.get? b = some o → h'.get? b = some o) → Builtin.Range.rangeSize a b c = (n : Int) → Builtin.Range.small a b c = true → ns = rangeL a c n → Q (.ref r) { s with heap := h', toks := tk }) :
    wpAny (model P.prog P.w) F.A (call (.type "range") us) Q E s := by
  obtain ⟨m, hF, hm⟩ := R.fr
  unfold rangeOf at h
  split at h
  · obtain ⟨u, rfl, t, hu⟩ := hr.one
    subst hu
    split at h
    · rename_i n hn
      obtain ⟨q1, q2⟩ := range_small (a := 0) (b := n) (by (first | lia | omega)) (by (first | lia | omega)) (by (first | lia | omega)) (by (first | lia | omega))
      refine range1_rows (news := allBut F.L s.heap) hF (news_all _ _) fun h' tk t₁ u₁ v₁ hi F' N' hk => ?_
      exact hq h' tk _ 0 n 1 t₁ u₁ v₁ n.toNat hi hk (by rw [q1]; simp) q2 (Option.some.inj h).symm
    · cases h
  · obtain ⟨u, v, rfl, ⟨t, hu⟩, t', hv⟩ := hr.two
    subst hu; subst hv
    split at h
    · rename_i a b hn
      obtain ⟨q1, q2⟩ := range_small (a := a) (b := b) (by (first | lia | omega)) (by (first | lia | omega)) (by (first | lia | omega)) (by (first | lia | omega))
      exact range2_rows (news := allBut F.L s.heap) hF (news_all _ _) fun h' tk t₁ u₁ v₁ hi F' N' hk => hq h' tk _ a b 1 t₁ u₁ v₁ _ hi hk q1 q2 (Option.some.inj h).symm
    · cases h
  · obtain ⟨u, us, rfl, ⟨t, hu⟩, hr⟩ := hr.cons_inv
    obtain ⟨v, w, rfl, ⟨t', hv⟩, t'', hw⟩ := hr.two
    subst hu; subst hv; subst hw
    split at h
    · rename_i a b c _ hn
      obtain ⟨rfl, hn⟩ := hn
      obtain ⟨q1, q2⟩ := range_smallD (a := a) (b := b) (by (first | lia | omega)) (by (first | lia | omega)) (by (first | lia | omega)) (by (first | lia | omega))
      exact range3_rows (news := allBut F.L s.heap) hF (news_all _ _) (by decide) (fun h' tk t₁ u₁ v₁ hi F' N' hk => hq h' tk _ a b (-1) t₁ u₁ v₁ _ hi hk q1 q2 (Option.some.inj h).symm) (Or.inl (PyProof.noPylong_small (by (first | lia | omega))))
    · cases h
  · cases h

theorem sim_iRange {x : Str} {np pos : Pos} {e : Expr} {es : List Expr} {p : LP} (hx : x ∈ D.globs) (hf : freeName P x) (hv : bootBuiltins x = some (.type "range")) (ha : SimL P D (e :: es) p) (hc : D.calm = true := by rfl)
    (he : ∀ env, starEach (e :: es) env = (false, eval e env) :: starEach es env := by intro _; rfl) (hs : ∀ env, (backTo pos (starEach es env)).any (·.1) = false := by intro _; rfl) (hd : (x == ("__debug__" : Str)) = false := by decide) :
    SimI P D (.Call (.Name x np) (e :: es) [] pos) (iRange p) := by
  intro F O σ s Q E R hp
  refine wpAny_Call_ofName (glob_bi O R hx hf hv ?_ hd)
  refine PyProof.Rows.callWith_type1 (wpAny_mono (ha F O pos σ s _ E R hp) ?_ fun _ _ x => x) (he _) (hs _)
  rintro us s₁ ⟨vs, σ₁, hr, R₁, ns, h₁, h₂⟩
  refine range_call R₁ hr h₁ fun h' tk r a b c t u v n hi hk hz hsm hns => ?_
  have R₂ : Rel P D F σ₁ { s₁ with heap := h', toks := tk } := R₁.ext hk
  subst hns
  refine wpAny_pyIter_range hi hsm ⟨h'.objs.size, _, _, _, σ₁, _, rfl, R₂.pushU _, R₂.fresh (heap_size_none _), Heap.get?_push_size _ rfl, ⟨Nat.zero_le _, ?_⟩, fun _ => itOk_range (O.hh hc), h₂⟩
  rw [hz]
  simp

end
end
section
noncomputable def emitK (elt : Expr) (acc : Value) (env : Env) : Sem Unit := do let _ ← call (.builtin "list.append") [acc, ← eval elt env]
noncomputable def turnOf (e : Expr) (d : Nat) (target iter : Expr) (ifs : List Expr) (K : Sem Fin → Sem Fin) (it acc : Value) (env : Env) : Sem Fin := do
  standAt iter.pos
  match ← pyNext it with
  | none => pure (.done .next)
  | some v =>
    letOwnedTupleGo target it v
    assign target env v
    let mut ok := true
    for c in ifs do
      if ok then ok ← isTrue c env (eval c env)
    if ok then K (again (.compLoop e d it acc env)) else again (.compLoop e d it acc env)
noncomputable def emitC (elt : Expr) (acc : Value) (env : Env) (k : Sem Fin) : Sem Fin := emitK elt acc env >>= fun _ => k
noncomputable def nextC (e : Expr) (i2 : Expr) (acc : Value) (env : Env) (k : Sem Fin) : Sem Fin := do
  let x ← eval i2 env
  standAt i2.pos
  let x ← foldedSetIterable i2 env x
  let _ ← runOwn (.compStart e 1 (← holding [x] (pyIter x)) acc env) env
  k
noncomputable def nextK (e : Expr) (i2 : Expr) (acc : Value) (env : Env) : Sem Unit := do
  let x ← eval i2 env
  standAt i2.pos
  let x ← foldedSetIterable i2 env x
  let _ ← runOwn (.compStart e 1 (← holding [x] (pyIter x)) acc env) env

section
variable {elt t i t2 i2 : Expr} {fs fs2 : List Expr} {scope : Scope} {pos : Pos}
theorem turn_one (it acc : Value) (env : Env) : compTurn (.ListComp elt [⟨t, i, fs, 0⟩] scope pos) 0 it acc env = turnOf (.ListComp elt [⟨t, i, fs, 0⟩] scope pos) 0 t i fs (emitC elt acc env) it acc env := rfl
end

section
variable {P : PC} {D : FD} {F : FX} {σ : St} {s : Shared}

structure AccAt (P : PC) (D : FD) (F : FX) (σ : St) (s : Shared) (a : Addr) (l : List AV) : Prop where
  unt : Unt D F σ a
  obj : (AObj.list l).at P s.heap a

theorem unt_back (O : FOk P D F) {I : Addr} {o' : Obj} (u : Unt D F σ I) (hI : s.heap.get? I = some o') {σ₄ : St} {s₄ : Shared} (R₄ : Rel P D (guardF F s.heap I) σ₄ s₄) : Unt D F σ₄ I := by
  refine ⟨u.1, ?_⟩
  cases q : σ₄.hp I with
  | none => rfl
  | some oo =>
    obtain ⟨_, y, z⟩ := R₄.hp I oo q
    exfalso
    cases hfz : oo.frozen with
    | false => have := (z hfz).1; rw [show (guardF F s.heap I).g.get? I = some o' from only_get hI (by simp)] at this; cases this
    | true =>
      have hy := y hfz
      cases q2 : F.kb.get? I with
      | none => rw [show (guardF F s.heap I).kb.get? I = F.kb.get? I from rfl, q2] at hy; cases hy
      | some ob => have := O.kbg I ob q2; rw [u.1.g] at this; cases this
theorem unt_out (R : Rel P D F σ s) {I b : Addr} {σ' : St} (u : Unt D (guardF F s.heap I) σ' b) : Unt D F σ' b := by
  refine ⟨⟨u.1.L, ?_, u.1.outs, u.1.cells⟩, u.2⟩
  cases q : F.g.get? b with
  | none => rfl
  | some o =>
    have := only_get (p := fun b => (F.g.get? b).isSome || b == I) (R.keep b o q) (by simp [q])
    have h2 := u.1.g
    rw [show (only s.heap _).get? b = none from h2] at this; cases this
theorem unt_in {I b : Addr} {h : Heap} (u : Unt D F σ b) (ne : b ≠ I) : Unt D (guardF F h I) σ b := ⟨⟨u.1.L, prot_none u.1.g ne, u.1.outs, u.1.cells⟩, u.2⟩
noncomputable abbrev CP := (List AV → St → Prop) → List AV → St → Prop
noncomputable def noX : Ex → St → Prop := fun _ _ => False
noncomputable def cEmit (p : EP) : CP := fun Q acc σ => p (fun v σ' => acc.length < 1000000 ∧ Q (acc ++ [v]) σ') noX σ
noncomputable def cTest : Option TP → CP → CP
  | none, c => c
  | some t, c => fun Q acc σ => t (fun b σ' => if b = true then c Q acc σ' else Q acc σ') noX σ
noncomputable def cLoop (items : List AV) (guard : St → Prop) (tgt : AV → SP) (c : CP) : CP := fun Q acc σ => ∃ J : Nat → List AV → St → Prop, J 0 acc σ ∧ ∀ i acc' σ', J i acc' σ' → guard σ' ∧ (match items[i]? with
  | none => Q acc' σ'
  | some v => tgt v (fun _ σ₂ => c (J (i + 1)) acc' σ₂) noX σ')
noncomputable def cFor (src : IP) (tgt : AV → SP) (c : CP) : CP := fun Q acc σ => src (fun items guard σ₁ => cLoop items guard tgt c Q acc σ₁) noX σ

noncomputable def SimTs (P : PC) (D : FD) : List Expr → Option TP → Prop
  | [], none => True
  | [c], some t => SimT P D c t
  | _, _ => False
noncomputable def SimK (P : PC) (D : FD) (K : Value → Env → Sem Unit) (c : CP) : Prop := ∀ F, FOk P D F → ∀ σ s a l Q, Rel P D F σ s → AccAt P D F σ s a l → c Q l σ →
  wpAny (model P.prog P.w) F.A (K (.ref a) F.env) (fun _ s' => ∃ l' σ', Rel P D F σ' s' ∧ AccAt P D F σ' s' a l' ∧ Q l' σ') (fun _ _ => False) s

theorem noX_elim {e : Value} (h : RX P D F noX e s) : False := by obtain ⟨_, _, _, h⟩ := h; exact h

theorem acc_over (O : FOk P D F) (R : Rel P D F σ s) {a : Addr} {l : List AV} (x : AccAt P D F σ s a l) {σ' : St} {s' : Shared} :
    Rel P D (guardF F s.heap a) σ' s' → Rel P D F σ' s' ∧ AccAt P D F σ' s' a l := by
  intro R'
  obtain ⟨ob, e⟩ := AObj.at_some x.obj
  have nc : ∀ v, ob.data ≠ .cell v := by
    obtain ⟨vs, n, e', _⟩ := x.obj
    rw [e] at e'; cases e'
    intro v hv; cases hv
  obtain ⟨R₁, e₁⟩ := R.unprot e nc R'
  exact ⟨R₁, unt_back O x.unt e R', AObj.at_of x.obj fun o' e' => by rw [e] at e'; cases e'; exact e₁⟩

theorem simK_emit {elt : Expr} {p : EP} (h : SimE P D elt p) : SimK P D (emitK elt) (cEmit p) := by
  intro F O σ s a l Q R x hp
  unfold emitK
  have O' := O.prot R x.unt
  refine wpAny_bind (wpAny_mono (h _ O' σ s _ noX (R.prot x.unt) hp) ?_ fun _ _ z => (noX_elim z).elim)
  rintro u s₁ ⟨v, σ₁, hv, R₁, hlt, h₁⟩
  obtain ⟨R₂, x₂⟩ := acc_over O R x R₁
  obtain ⟨xs, n, e, r, hz⟩ := x₂.obj
  have hl := r.length
  refine wpAny_bind (wpAny_list_append_plain (items := xs.toArray) ⟨n, e⟩ (fun h' hp' hs' => ?_) (by rw [List.size_toArray, sizeLine_eq]; omega))
  obtain ⟨n', e'⟩ := hp'
  refine wpAny_pure ⟨l ++ [v], σ₁, R₂.change (t := s₁.toks) (fun b => b = a) (fun b eb => eb ▸ x₂.unt.1) (fun b ob ne eb => (hs'.2 b ne).trans eb) (fun b ob eb => .inl ⟨eb, fun q => by rw [q, x₂.unt.2] at eb; cases eb⟩), ⟨x₂.unt, ?_⟩, h₁⟩
  exact ⟨xs ++ [u], n', e'.trans (by simp [W.listOf]), r.append ⟨hv, trivial⟩, by rw [List.length_append]; simp; omega⟩

theorem loop_sim {elt : Expr} {gens : List Comprehension} {scope : Scope} {pos : Pos} {d : Nat} {target iter : Expr} {ifs : List Expr} {K : Value → Env → Sem Unit} {K' : Value → Env → Sem Fin → Sem Fin} {tgt : AV → SP} {ts : Option TP} {c : CP}
    (hT : ∀ it acc env, compTurn (.ListComp elt gens scope pos) d it acc env = turnOf (.ListComp elt gens scope pos) d target iter ifs (K' acc env) it acc env)
    (hKK : ∀ acc env k A (Q : Fin → Shared → Prop) E s, wpAny (model P.prog P.w) A (K acc env) (fun _ s' => wpAny (model P.prog P.w) A k Q E s') (fun _ _ => False) s → wpAny (model P.prog P.w) A (K' acc env k) Q E s) (ht : SimA P D target tgt) (hts : SimTs P D ifs ts) (hK : SimK P D K c)
    (O : FOk P D F) {I : Addr} {items : List AV} {guard : St → Prop} {Ob : Nat → Obj → Prop} {o : Obj} {a : Addr} {l : List AV} {Q : List AV → St → Prop} (W : ItOk P D F.A I items guard Ob) (R : Rel P D F σ s) (uI : Unt D F σ I)
    (hI : s.heap.get? I = some o) (ho : Ob 0 o) (hacc : AccAt P D F σ s a l) (hne : a ≠ I) (h : cLoop items guard tgt (cTest ts c) Q l σ) :
    codeAny (model P.prog P.w) F.A (.compLoop (.ListComp elt gens scope pos) d (.ref I) (.ref a) F.env) (fun r s' => r = .ok .next ∧ ∃ l' σ', Rel P D F σ' s' ∧ AccAt P D F σ' s' a l' ∧ Q l' σ') s := by
  obtain ⟨J, hJ0, hJ⟩ := h
  refine codeAny_loop rfl (fun n s' => ∃ i l' σ' o, n = items.length - i ∧ i ≤ items.length ∧ Rel P D F σ' s' ∧ Unt D F σ' I ∧ s'.heap.get? I = some o ∧ Ob i o ∧ AccAt P D F σ' s' a l' ∧ J i l' σ') ?_ _ ⟨0, l, σ, o, rfl, Nat.zero_le _, R, uI, hI, ho, hacc, hJ0⟩
  rintro n s' ⟨i, l', σ', o', hn, hle, R', uI', hI', ho', hacc', hJi⟩
  show wpAny _ F.A ((compTurn (.ListComp elt gens scope pos) d (.ref I) (.ref a) F.env).onRaise (fun x => do noteFrame x F.env; theTreesLotGoes x)) _ _ s'
  refine wpAny_noted ?_
  rw [hT]
  unfold turnOf
  obtain ⟨hg, hm⟩ := hJ i l' σ' hJi
  have keepAcc : ∀ {h' : Heap} {tk : Nat}, (∀ b ob, b ≠ I → s'.heap.get? b = some ob → h'.get? b = some ob) → AccAt P D F σ' { s' with heap := h', toks := tk } a l' := fun hk => ⟨hacc'.unt, AObj.at_of hacc'.obj fun ob e => hk a ob hne e⟩
  refine wpAny_bind (wpAny_standAt (wpAny_bind ?_))
  cases hv : items[i]? with
  | none =>
    rw [hv] at hm
    exact W.done F σ' s' i o' _ _ rfl R' hg hI' ho' hv fun h' tk hk => wpAny_pure ⟨rfl, l', σ', R'.skipI uI' hk, keepAcc hk, hm⟩
  | some v =>
    rw [hv] at hm
    refine W.next F σ' s' i o' v _ _ rfl R' hg hI' ho' hv fun u h' tk o'' hu hk hI'' ho'' => ?_
    have R'' := R'.skipI (t := tk) uI' hk
    have acc'' := keepAcc (tk := tk) hk
    have nc := W.noCell _ _ ho''
    refine wpAny_bind (W.lets (i + 1) o'' target u _ _ _ ho'' hI'' ?_)
    have O1 := O.prot R'' uI'
    have R1 := R''.prot uI'
    have acc1 : AccAt P D (guardF F h' I) σ' { s' with heap := h', toks := tk } a l' := ⟨unt_in acc''.unt hne, acc''.obj⟩
    have O2 := O1.prot R1 acc1.unt
    have R2 := R1.prot acc1.unt
    refine wpAny_bind (wpAny_mono (ht _ O2 v u hu σ' _ _ noX R2 hm) ?_ fun _ _ z => (noX_elim z).elim)
    rintro _ s₃ ⟨σ₃, R₃, h₃⟩
    have hlt : i < items.length := by obtain ⟨h, _⟩ := List.getElem?_eq_some_iff.mp hv; exact h
    -- behind the tests
    have fin : ∀ (l₄ : List AV) (σ₄ : St) (s₄ : Shared), Rel P D (guardF F h' I) σ₄ s₄ → AccAt P D (guardF F h' I) σ₄ s₄ a l₄ → J (i + 1) l₄ σ₄ →
        ∃ m, m < n ∧ ∃ i l' σ' o, m = items.length - i ∧ i ≤ items.length ∧ Rel P D F σ' s₄ ∧ Unt D F σ' I ∧ s₄.heap.get? I = some o ∧ Ob i o ∧ AccAt P D F σ' s₄ a l' ∧ J i l' σ' := by
      intro l₄ σ₄ s₄ R₄ x₄ hj
      obtain ⟨R₅, hI₅⟩ := R''.unprot hI'' nc R₄
      exact ⟨items.length - (i + 1), by omega, i + 1, l₄, σ₄, o'', rfl, by omega, R₅, unt_back (s := { s' with heap := h', toks := tk }) O uI' hI'' R₄, hI₅, ho'', ⟨unt_out R'' x₄.unt, x₄.obj⟩, hj⟩
    have body : ∀ (σ₄ : St) (s₄ : Shared), Rel P D (guardF (guardF F h' I) h' a) σ₄ s₄ → c (J (i + 1)) l' σ₄ →
        wpAny (model P.prog P.w) F.A (K (.ref a) F.env) (fun _ s₅ => ∃ m, m < n ∧ ∃ i l' σ' o, m = items.length - i ∧ i ≤ items.length ∧ Rel P D F σ' s₅ ∧ Unt D F σ' I ∧ s₅.heap.get? I = some o ∧ Ob i o ∧ AccAt P D F σ' s₅ a l' ∧ J i l' σ') (fun _ _ => False) s₄ := by
      intro σ₄ s₄ R₄ h₄
      obtain ⟨R₅, x₅⟩ := acc_over O1 R1 acc1 R₄
      refine wpAny_mono (hK _ O1 σ₄ s₄ a l' _ R₅ x₅ h₄) ?_ fun _ _ z => z
      rintro _ s₅ ⟨l₆, σ₆, R₆, x₆, h₆⟩
      exact fin l₆ σ₆ s₅ R₆ x₆ h₆
    have goes : ∀ (ok : Bool) (σ₄ : St) (s₄ : Shared), Rel P D (guardF (guardF F h' I) h' a) σ₄ s₄ → (if ok = true then c (J (i + 1)) l' σ₄ else J (i + 1) l' σ₄) → ∀ (E : Value → Shared → Prop),
        wpAny (model P.prog P.w) F.A (if ok = true then K' (.ref a) F.env (again (.compLoop (.ListComp elt gens scope pos) d (.ref I) (.ref a) F.env)) else again (.compLoop (.ListComp elt gens scope pos) d (.ref I) (.ref a) F.env))
          (fun fin s' => match fin with | .done f => (fun r s' => r = .ok .next ∧ ∃ l' σ', Rel P D F σ' s' ∧ AccAt P D F σ' s' a l' ∧ Q l' σ') (.ok f : Result) s' | .again c' => c' = .compLoop (.ListComp elt gens scope pos) d (.ref I) (.ref a) F.env ∧ ∃ m, m < n ∧ ∃ i l' σ' o, m = items.length - i ∧ i ≤ items.length ∧ Rel P D F σ' s' ∧ Unt D F σ' I ∧ s'.heap.get? I = some o ∧ Ob i o ∧ AccAt P D F σ' s' a l' ∧ J i l' σ') E s₄ := by
      intro ok σ₄ s₄ R₄ h₄ E
      cases ok with
      | true =>
        rw [if_pos rfl] at h₄ ⊢
        exact hKK _ _ _ _ _ _ _ (wpAny_mono (body σ₄ s₄ R₄ h₄) (fun _ s₅ h₅ => wpAny_pure ⟨rfl, h₅⟩) fun _ _ z => z)
      | false =>
        rw [if_neg (by decide)] at h₄ ⊢
        obtain ⟨R₅, x₅⟩ := acc_over O1 R1 acc1 R₄
        exact wpAny_pure ⟨rfl, fin l' σ₄ s₄ R₅ x₅ h₄⟩
    match ifs, ts, hts, h₃ with
    | [], none, _, h₃ => exact wpAny_bind (wpAny_tests_nil (goes true σ₃ s₃ R₃ (by rw [if_pos rfl]; exact h₃) _))
    | [t], some pt, hts, h₃ =>
      refine wpAny_bind (wpAny_tests_one (wpAny_mono (hts _ O2 σ₃ s₃ _ noX R₃ h₃) ?_ fun _ _ z => (noX_elim z).elim))
      rintro b s₄ ⟨σ₄, R₄, h₄⟩
      exact goes b σ₄ s₄ R₄ h₄ _
end
end
section
section
variable {P : PC} {D : FD} {F : FX} {σ : St} {s : Shared}

-- the frame of a comprehension
noncomputable def clOf (env : Env) : List (Str × NameKind) → List (Str × Addr) → List (Str × Addr)
  | [], acc => acc
  | (n, k) :: r, acc => clOf env r (if k == .free then (n, (env.cells.lookup n).getD 0) :: acc else acc)
theorem closureFor_eq {env : Env} {scope : Scope} (h : ∀ x, (x, NameKind.free) ∈ scope.names → ∃ c, env.cells.lookup x = some c) : closureFor scope env = pure (clOf env scope.names []) := by
  unfold closureFor
  have main : ∀ (names : List (Str × NameKind)) (acc : List (Str × Addr)), (∀ x, (x, NameKind.free) ∈ names → ∃ c, env.cells.lookup x = some c) →
      (forIn names acc fun (x : Str × NameKind) (r : List (Str × Addr)) => if x.2 == .free then (do let c ← cellOf env x.1; pure (ForInStep.yield ((x.1, c) :: r))) else pure (ForInStep.yield r)) = (pure (clOf env names acc) : Sem _) := by
    intro names
    induction names with
    | nil => intro acc _; rfl
    | cons y r ih =>
      intro acc hy
      obtain ⟨n, k⟩ := y
      rw [List.forIn_cons]
      cases hk : k == NameKind.free with
      | true =>
        have := eq_of_beq hk; subst this
        obtain ⟨c, hc⟩ := hy n (List.mem_cons_self ..)
        have : cellOf env n = pure c := by unfold cellOf; rw [hc]
        simp only [beq_self_eq_true, if_true, this, clOf, hc, Option.getD_some]
        exact ih _ fun x hx => hy x (List.mem_cons_of_mem _ hx)
      | false =>
        simp only [hk, clOf]
        exact ih _ fun x hx => hy x (List.mem_cons_of_mem _ hx)
  refine Eq.trans (congrArg (fun m : Sem (List (Str × Addr)) => m >>= fun r => pure r) (main scope.names [] h)) ?_
  rfl

theorem clOf_lookup {env : Env} {x : Str} : ∀ (names : List (Str × NameKind)) (acc : List (Str × Addr)), (∀ c, acc.lookup x = some c → env.cells.lookup x = some c) → (∃ c, env.cells.lookup x = some c) → ((x, NameKind.free) ∈ names ∨ (acc.lookup x).isSome = true) →
    (clOf env names acc).lookup x = env.cells.lookup x
  | [], acc, h1, _, h3 => by
    rcases h3 with h | h
    · cases h
    · obtain ⟨c, hc⟩ := Option.isSome_iff_exists.mp h
      show acc.lookup x = _
      rw [hc, h1 c hc]
  | (n, k) :: r, acc, h1, ⟨c, hc⟩, h3 => by
    show (clOf env r _).lookup x = _
    by_cases hk : k = .free
    · subst hk
      refine clOf_lookup r _ ?_ ⟨c, hc⟩ ?_
      · intro d hd
        simp only [beq_self_eq_true, if_true, List.lookup_cons] at hd
        split at hd
        · rename_i e; rw [← eq_of_beq e, hc] at hd; cases hd; exact hc
        · exact h1 d hd
      · rcases h3 with h | h
        · rcases List.mem_cons.mp h with e | e
          · cases e; right; simp [List.lookup_cons]
          · exact .inl e
        · right
          simp only [beq_self_eq_true, if_true, List.lookup_cons]
          split
          · rfl
          · exact h
    · rw [show (k == NameKind.free) = false from by simpa using hk]
      refine clOf_lookup r acc h1 ⟨c, hc⟩ ?_
      rcases h3 with h | h
      · rcases List.mem_cons.mp h with e | e
        · cases e; exact absurd rfl hk
        · exact .inl e
      · exact .inr h
theorem cellsFrom_append : ∀ (names : List (Str × NameKind)) (n : Nat) (acc : List (Str × Addr)), cellsFrom n names acc = cellsFrom n names [] ++ acc
  | [], _, _ => rfl
  | (x, k) :: r, n, acc => by
    unfold cellsFrom
    split
    · rw [cellsFrom_append r (n + 1) ((x, n) :: acc), cellsFrom_append r (n + 1) [(x, n)], List.append_assoc]; rfl
    · exact cellsFrom_append r n acc
theorem lookup_append_some {x : Str} {c : Addr} : ∀ {l l' : List (Str × Addr)}, l.lookup x = some c → (l ++ l').lookup x = some c
  | [], _, h => by cases h
  | (y, d) :: l, l', h => by
    rw [List.cons_append, List.lookup_cons] at *
    split
    · rename_i e; simpa [e] using h
    · rename_i e; exact lookup_append_some (by simpa [e] using h)
theorem lookup_append_none {x : Str} : ∀ {l l' : List (Str × Addr)}, l.lookup x = none → (l ++ l').lookup x = l'.lookup x
  | [], _, _ => rfl
  | (y, d) :: l, l', h => by
    rw [List.lookup_cons] at h
    rw [List.cons_append, List.lookup_cons]
    split
    · rename_i e; simp [e] at h
    · rename_i e; exact lookup_append_none (by simpa [e] using h)
theorem cellsFrom_names {x : Str} {c : Addr} : ∀ (names : List (Str × NameKind)) (n : Nat), (x, c) ∈ cellsFrom n names [] → (x, NameKind.cell) ∈ names
  | [], _, h => by cases h
  | (y, k) :: r, n, h => by
    unfold cellsFrom at h
    split at h
    · rename_i e
      rw [cellsFrom_append] at h
      rcases List.mem_append.mp h with h | h
      · exact List.mem_cons_of_mem _ (cellsFrom_names r _ h)
      · have := List.mem_singleton.mp h; cases this; rw [eq_of_beq e]; exact List.mem_cons_self ..
    · exact List.mem_cons_of_mem _ (cellsFrom_names r _ h)

theorem relabel_keep {env : Env} {x : Str} {k : NameKind} (hk : k ≠ .free) : ∀ {names : List (Str × NameKind)}, names.lookup x = some k →
    (names.map fun (n, k) => if (k == NameKind.free && env.scope.kind == .function && env.kindOf n == some .cell) then (n, NameKind.cell) else (n, k)).lookup x = some k
  | [], h => by cases h
  | (n, k') :: r, h => by
    rw [List.lookup_cons] at h
    rw [List.map_cons]
    show List.lookup x ((if (k' == NameKind.free && env.scope.kind == .function && env.kindOf n == some .cell) = true then (n, NameKind.cell) else (n, k')) :: _) = _
    cases hx : x == n with
    | true =>
      rw [hx] at h; cases h
      have : (k == NameKind.free) = false := by simpa using hk
      simp [this, List.lookup_cons, hx]
    | false =>
      rw [hx] at h
      split <;> (rw [List.lookup_cons, hx]; exact relabel_keep hk h)
theorem relabel_free {env : Env} {x : Str} : ∀ {names : List (Str × NameKind)}, names.lookup x = some .free →
    (names.map fun (n, k) => if (k == NameKind.free && env.scope.kind == .function && env.kindOf n == some .cell) then (n, NameKind.cell) else (n, k)).lookup x = some .free ∨
    (names.map fun (n, k) => if (k == NameKind.free && env.scope.kind == .function && env.kindOf n == some .cell) then (n, NameKind.cell) else (n, k)).lookup x = some .cell
  | [], h => by cases h
  | (n, k') :: r, h => by
    rw [List.lookup_cons] at h
    rw [List.map_cons]
    show List.lookup x ((if (k' == NameKind.free && env.scope.kind == .function && env.kindOf n == some .cell) = true then (n, NameKind.cell) else (n, k')) :: _) = _ ∨ List.lookup x ((if (k' == NameKind.free && env.scope.kind == .function && env.kindOf n == some .cell) = true then (n, NameKind.cell) else (n, k')) :: _) = _
    cases hx : x == n with
    | true =>
      rw [hx] at h; cases h
      split
      · right; rw [List.lookup_cons, hx]
      · left; rw [List.lookup_cons, hx]
    | false =>
      rw [hx] at h
      split <;> (rw [List.lookup_cons, hx]; exact relabel_free h)

theorem new_comp_env {A : Around} {E : Value → Shared → Prop} {M : Model} {scope : Scope} {globals : Addr} {cl : List (Str × Addr)} {qual : Str} {env : Env} {Q : Env → Shared → Prop} (hk : scope.kind = .function)
    (hQ : ∀ h', h'.Ns s.heap.objs.size (fun _ => none) → (∀ b o, s.heap.get? b = some o → h'.get? b = some o) → (∀ n c, (n, c) ∈ cellsFrom (s.heap.objs.size + 1) scope.names [] → h'.IsCell c none ∧ s.heap.objs.size < c) →
      (cellsFrom (s.heap.objs.size + 1) scope.names []).Pairwise (fun x y => x.2 ≠ y.2) → h'.get? s.heap.objs.size ≠ none →
      Q (newEnv scope s.heap.objs.size globals (cellsFrom (s.heap.objs.size + 1) scope.names [] ++ cl) qual none .none (some env) builtinsNs) { s with heap := h' }) :
    wpAny M A (newFunctionEnv scope globals cl [] qual none .none (some env)) Q E s := by
  simp only [newFunctionEnv, Option.isSome_some, if_true]
  refine wpAny_bind (wpAny_alloc ?_)
  refine wpAny_bind (wpAny_layCells _ (fun name kind cells => by cases hkc : kind == NameKind.cell <;> simp [hkc]) _ _ _ _ ?_)
  have ok := cellsFrom_ok scope.names (s.heap.push { cls := .type "dict", data := .dict #[] }) (s.heap.objs.size + 1) [] ⟨fun _ _ hm => (nomatch hm), List.Pairwise.nil⟩ (by rw [Heap.size_push]; exact Nat.le_refl _)
  rw [Heap.size_push] at ok
  rw [show ({ s with heap := s.heap.push { cls := .type "dict", data := .dict #[] } } : Shared).heap.objs.size = s.heap.objs.size + 1 from Heap.size_push ..]
  rw [cellsFrom_append]
  refine wpAny_bind (wpAny_pure (wpAny_pure (hQ _ ((Heap.Ns.new s.heap (.type "dict")).keeps (pushCells_keeps _ _)) (fun b o e => pushCells_keeps _ _ b o (Heap.get?_push_of_some _ e)) (fun n c hm => ok.empty n c hm) ok.apart ?_)))
  rw [pushCells_keeps _ _ _ _ (Heap.get?_push_size _ rfl)]
  exact fun h => nomatch h
end
end
section
structure CompOk (D D' : FD) (scope : Scope) (m : List (Option Nat)) : Prop where
  kind : scope.kind = .function
  names : ∀ x ∈ scope.names, x.2 = .local → scope.names.lookup x.1 = some .local
  free : ∀ x, (x, NameKind.free) ∈ scope.names → (x, VK.cell) ∈ D.vars ∨ (x, VK.cap) ∈ D.vars
  loc : ∀ x, (x, VK.loc) ∈ D'.vars → scope.names.lookup x = some .local
  cell : ∀ x, (x, VK.cell) ∈ D'.vars → scope.names.lookup x = some .cell
  cap : ∀ x, (x, VK.cap) ∈ D'.vars → scope.names.lookup x = some .free ∧ (x == ("__classdict__" : Str)) = false ∧ (x, NameKind.cell) ∉ scope.names ∧ (x, NameKind.free) ∈ scope.names
  glob : ∀ x ∈ D'.globs, scope.names.lookup x = some .globalImplicit
  nd : (D'.vars.map (·.1)).Nodup
  map : ∀ (i j : Nat), m[i]? = some (some j) → ∃ x : Str, D'.vars[i]? = some (x, VK.cap) ∧ (D.vars[j]? = some (x, VK.cell) ∨ D.vars[j]? = some (x, VK.cap))
  fn : D'.fn = false
  depth : D'.depth ≤ D.depth
  calm : D'.calm = true → D.calm = true

noncomputable def compOkB (D D' : FD) (scope : Scope) (m : List (Option Nat)) : Bool :=
  decide (scope.kind = .function) && (scope.names.all fun x => x.2 != .local || scope.names.lookup x.1 == some .local) &&
  (scope.names.all fun x => x.2 != .free || D.vars.contains (x.1, .cell) || D.vars.contains (x.1, .cap)) &&
  (D'.vars.all fun x => match x.2 with
    | .loc => scope.names.lookup x.1 == some .local
    | .cell => scope.names.lookup x.1 == some .cell
    | .cap => scope.names.lookup x.1 == some .free && x.1 != ("__classdict__" : Str) && !scope.names.contains (x.1, .cell) && scope.names.contains (x.1, .free)) &&
  (D'.globs.all fun x => scope.names.lookup x == some .globalImplicit) && decide ((D'.vars.map (·.1)).Nodup) &&
  ((List.range m.length).all fun i => match m[i]? with
    | some (some j) => match D'.vars[i]?, D.vars[j]? with
      | some (x, VK.cap), some (y, VK.cell) => x == y
      | some (x, VK.cap), some (y, VK.cap) => x == y
      | _, _ => false
    | _ => true) && !D'.fn && decide (D'.depth ≤ D.depth) && (!D'.calm || D.calm)

theorem CompOk.of {D D' : FD} {scope : Scope} {m : List (Option Nat)} (h : compOkB D D' scope m = true) : CompOk D D' scope m := by
  unfold compOkB at h
  simp only [Bool.and_eq_true, List.all_eq_true, decide_eq_true_eq] at h
  obtain ⟨⟨⟨⟨⟨⟨⟨⟨⟨h1, h2⟩, h3⟩, h4⟩, h5⟩, h6⟩, h7⟩, h8⟩, h9⟩, h10⟩ := h
  refine ⟨h1, fun x hx hl => ?_, fun x hx => ?_, fun x hx => ?_, fun x hx => ?_, fun x hx => ?_, fun x hx => by simpa using h5 x hx, h6, fun i j hij => ?_, by simpa using h8, h9, fun hc => by simpa [hc] using h10⟩
  · have := h2 x hx; rw [hl] at this; simpa using this
  · have := h3 _ hx; simpa using this
  · have := h4 _ hx; simpa using this
  · have := h4 _ hx; simpa using this
  · have := h4 _ hx
    simp only [Bool.and_eq_true, beq_iff_eq, bne_iff_ne, ne_eq, Bool.not_eq_true', List.contains_iff_mem] at this
    obtain ⟨⟨⟨a1, a2⟩, a3⟩, a4⟩ := this
    refine ⟨a1, by simpa using a2, fun hm => ?_, a4⟩
    rw [List.contains_iff_mem.mpr hm] at a3; cases a3
  · have hlt : i < m.length := (List.getElem?_eq_some_iff.mp hij).1
    have := h7 i (List.mem_range.mpr hlt)
    rw [hij] at this
    simp only at this
    split at this
    · rename_i x y e1 e2; rw [eq_of_beq this] at e1; exact ⟨y, e1, .inl e2⟩
    · rename_i x y e1 e2; rw [eq_of_beq this] at e1; exact ⟨y, e1, .inr e2⟩
    · cases this

noncomputable def capLoc (m : List (Option Nat)) (loc : Nat → Option AV) : Nat → Option AV := fun i => match m[i]? with
  | some (some j) => loc j
  | _ => none

section
variable {P : PC} {D D' : FD} {F : FX} {σ : St} {s : Shared}

noncomputable def compG (F : FX) (hp : AH) (X : List Addr) (h : Heap) : Heap := only h fun b => !tracked hp b && !(F.L :: F.outs.map (·.1)).contains b && !X.contains b
theorem compG_get {hp : AH} {h : Heap} {X : List Addr} {b : Addr} {o : Obj} (e : h.get? b = some o) (h1 : tracked hp b = false) (h2 : b ∉ F.L :: F.outs.map (·.1)) (h3 : b ∉ X) : (compG F hp X h).get? b = some o :=
  only_get e (by
    rw [h1]; simp only [Bool.not_false, Bool.true_and, Bool.and_eq_true, Bool.not_eq_true']
    exact ⟨by rw [← Bool.not_eq_true, List.contains_iff_mem]; exact h2, by rw [← Bool.not_eq_true, List.contains_iff_mem]; exact h3⟩)
theorem of_compG {hp : AH} {h : Heap} {X : List Addr} {b : Addr} {o : Obj} (e : (compG F hp X h).get? b = some o) : h.get? b = some o ∧ tracked hp b = false ∧ b ∉ F.L :: F.outs.map (·.1) ∧ b ∉ X := by
  obtain ⟨h1, h2⟩ := of_only e
  simp only [Bool.and_eq_true, Bool.not_eq_true'] at h2
  obtain ⟨⟨a1, a2⟩, a3⟩ := h2
  refine ⟨h1, a1, fun hm => ?_, fun hm => ?_⟩
  · rw [List.contains_iff_mem.mpr hm] at a2; cases a2
  · rw [List.contains_iff_mem.mpr hm] at a3; cases a3
theorem compG_sub (O : FOk P D F) (R : Rel P D F σ s) {X : List Addr} (hX : ∀ b ∈ X, Unt D F σ b) {b : Addr} {o : Obj} (e : F.g.get? b = some o) : (compG F σ.hp X s.heap).get? b = some o := by
  obtain ⟨h1, h2, h3⟩ := of_calleeG (g_sub O R e)
  exact compG_get h1 h2 h3 fun hm => by have := (hX b hm).1.g; rw [e] at this; cases this
noncomputable def compF (F : FX) (hp : AH) (X : List Addr) (h : Heap) (L : Addr) (env : Env) : FX :=
  { A := F.A, kb := F.kb, fenv := F.fenv, outer := F.outer, outs := curOuts F h, g := compG F hp X h, L := L, env := env, os := F.os }

theorem comp_cell_in (O : FOk P D F) (R : Rel P D F σ s) {X : List Addr} (hX : ∀ b ∈ X, Unt D F σ b) {x : Str} {c : Addr} {i : Nat} (hi : D.vars[i]? = some (x, .cell)) (hc : F.env.cells.lookup x = some c) {o : Obj} (e : s.heap.get? c = some o) :
    (compG F σ.hp X s.heap).get? c = some o := by
  obtain ⟨h1, _⟩ := R.cell i x hi c hc
  obtain ⟨_, c', hc', hcL, hcg, hco⟩ := O.cell x (List.mem_of_getElem? hi)
  rw [hc] at hc'; cases hc'
  exact compG_get e (by unfold tracked; rw [h1]) (fun hm => (List.mem_cons.mp hm).elim hcL hco) fun hm => (hX c hm).1.cells x c (List.mem_of_getElem? hi) hc rfl

theorem comp_back {L : Addr} {env : Env} {X : List Addr} {σ₁ : St} {s₁ : Shared} (O : FOk P D F) (R : Rel P D F σ s) (hX : ∀ b ∈ X, Unt D F σ b) (R₁ : Rel P D' (compF F σ.hp X s.heap L env) σ₁ s₁) : Rel P D F ⟨σ.loc, σ₁.hp⟩ s₁ where
  ns := by
    obtain ⟨m, ⟨o, es, ep, e, hd, r⟩, q⟩ := R.ns
    obtain ⟨sl, e'⟩ := R₁.outs (F.L, o) (curOuts_mem.mpr ⟨e, List.mem_cons_self ..⟩)
    exact ⟨m, ⟨_, es, ep, e', hd, r⟩, q⟩
  cell := fun i x hi c hc => by
    obtain ⟨h1, u, ⟨o, e, hd⟩, q⟩ := R.cell i x hi c hc
    obtain ⟨_, c', hc', hcL, hcg, hco⟩ := O.cell x (List.mem_of_getElem? hi)
    rw [hc] at hc'; cases hc'
    have hg := comp_cell_in O R hX hi hc e
    refine ⟨?_, u, ⟨o, R₁.keep c o hg, hd⟩, q⟩
    show σ₁.hp c = none
    cases e2 : σ₁.hp c with
    | none => rfl
    | some ob =>
      exfalso
      obtain ⟨_, y, z⟩ := R₁.hp c ob e2
      cases hf : ob.frozen with
      | false => have := (z hf).1; rw [show (compF F σ.hp X s.heap L env).g.get? c = some o from hg] at this; cases this
      | true =>
        have hy : (F.kb.get? c).isSome = true := y hf
        cases q2 : F.kb.get? c with
        | none => rw [q2] at hy; cases hy
        | some ob => have := O.kbg c ob q2; rw [hcg] at this; cases this
  cap := R.cap
  keep := fun b o e => R₁.keep b o (compG_sub O R hX e)
  outs := fun q hq => by
    obtain ⟨sl, e⟩ := R.outs q hq
    obtain ⟨sl', e'⟩ := R₁.outs (q.1, { q.2 with slots := sl }) (curOuts_mem.mpr ⟨e, List.mem_cons_of_mem _ (List.mem_map.mpr ⟨q, hq, rfl⟩)⟩)
    exact ⟨sl', e'⟩
  hp := fun a o e => by
    obtain ⟨x, y, z⟩ := R₁.hp a o e
    refine ⟨x, y, fun hf => ?_⟩
    obtain ⟨z1, z2, z3⟩ := z hf
    have hno : a ∉ F.L :: F.outs.map (·.1) := fun hm => z3 ((curOuts_keys R a).mpr hm)
    refine ⟨?_, fun q => hno (q ▸ List.mem_cons_self ..), fun hm => hno (List.mem_cons_of_mem _ hm)⟩
    cases q : F.g.get? a with
    | none => rfl
    | some o' => have := compG_sub O R hX q; rw [show (compG F σ.hp X s.heap).get? a = none from z1] at this; cases this
  gens := R₁.gens
  os := R₁.os


theorem comp_unt {L : Addr} {env : Env} {X : List Addr} {σ₁ : St} (O : FOk P D F) (R : Rel P D F σ s) (hX : ∀ b ∈ X, Unt D F σ b) {a : Addr} (u : Unt D' (compF F σ.hp X s.heap L env) σ₁ a) : Unt D F ⟨σ.loc, σ₁.hp⟩ a := by
  have hno : a ∉ F.L :: F.outs.map (·.1) := fun hm => u.1.outs ((curOuts_keys R a).mpr hm)
  refine ⟨⟨fun q => hno (q ▸ List.mem_cons_self ..), ?_, fun hm => hno (List.mem_cons_of_mem _ hm), fun x c hx hc e => ?_⟩, u.2⟩
  · cases q : F.g.get? a with
    | none => rfl
    | some o' => have := compG_sub O R hX q; rw [show (compG F σ.hp X s.heap).get? a = none from u.1.g] at this; cases this
  · obtain ⟨i, hi⟩ := List.mem_iff_getElem?.mp hx
    obtain ⟨h1, w, ⟨o, eo, hd⟩, q⟩ := R.cell i x hi c hc
    have hg := comp_cell_in O R hX hi hc eo
    have := u.1.g
    rw [← e, show (compF F σ.hp X s.heap L env).g.get? c = some o from hg] at this; cases this

theorem comp_frame {scope : Scope} {m : List (Option Nat)} (hC : CompOk D D' scope m) (O : FOk P D F) (R : Rel P D F σ s) {X : List Addr} (hX : ∀ b ∈ X, Unt D F σ b) {h' : Heap} {env : Env}
    (hns : h'.Ns s.heap.objs.size (fun _ => none)) (hk : ∀ b o, s.heap.get? b = some o → h'.get? b = some o) (hcell : ∀ n c, (n, c) ∈ cellsFrom (s.heap.objs.size + 1) scope.names [] → h'.IsCell c none ∧ s.heap.objs.size < c)
    (hap : (cellsFrom (s.heap.objs.size + 1) scope.names []).Pairwise (fun x y => x.2 ≠ y.2))
    (henv : env = { newEnv scope s.heap.objs.size F.env.globals (cellsFrom (s.heap.objs.size + 1) scope.names [] ++ clOf F.env scope.names []) F.env.qual none .none (some F.env) builtinsNs with scope := relabel scope F.env }) :
    FOk P D' (compF F σ.hp X s.heap s.heap.objs.size env) ∧ Rel P D' (compF F σ.hp X s.heap s.heap.objs.size env) ⟨capLoc m σ.loc, σ.hp⟩ { s with heap := h' } := by
  have freeCell : ∀ x, (x, NameKind.free) ∈ scope.names → ∃ c, F.env.cells.lookup x = some c := fun x hx => by
    rcases hC.free x hx with h | h
    · obtain ⟨_, c, hc, _⟩ := O.cell x h; exact ⟨c, hc⟩
    · exact (O.cap x h).2
  have nofr : ∀ a, a ∈ F.L :: F.outs.map (·.1) → a < s.heap.objs.size := fun a ha => by
    obtain ⟨q, hq, rfl⟩ := List.mem_map.mp ((curOuts_keys R a).mpr ha)
    exact Heap.lt_size (curOuts_mem.mp hq).1
  have gLt : ∀ b o, (compG F σ.hp X s.heap).get? b = some o → b < s.heap.objs.size := fun b o e => Heap.lt_size (of_compG e).1
  have gNone : ∀ b, s.heap.objs.size ≤ b → (compG F σ.hp X s.heap).get? b = none := fun b hb => by
    cases q : (compG F σ.hp X s.heap).get? b with
    | none => rfl
    | some o => exact absurd (gLt b o q) (Nat.not_lt.mpr hb)
  have oNone : ∀ b, s.heap.objs.size ≤ b → b ∉ (curOuts F s.heap).map (·.1) := fun b hb hm => absurd (nofr b ((curOuts_keys R b).mp hm)) (Nat.not_lt.mpr hb)
  have hcells : env.cells = cellsFrom (s.heap.objs.size + 1) scope.names [] ++ clOf F.env scope.names [] := by rw [henv]; rfl
  have hsc : env.scope = relabel scope F.env := by rw [henv]
  have kindOf : ∀ x, env.kindOf x = (scope.names.map fun (n, k) => if (k == NameKind.free && F.env.scope.kind == .function && F.env.kindOf n == some .cell) then (n, NameKind.cell) else (n, k)).lookup x := fun x => by rw [henv]; rfl
  have cellAt : ∀ x, (x, VK.cell) ∈ D'.vars → ∃ c, env.cells.lookup x = some c ∧ (x, c) ∈ cellsFrom (s.heap.objs.size + 1) scope.names [] := fun x hx => by
    obtain ⟨c, hc⟩ := Option.isSome_iff_exists.mp (cells_some (x := x) scope.names (s.heap.objs.size + 1) [] (hC.cell x hx))
    exact ⟨c, by rw [hcells]; exact lookup_append_some hc, mem_of_lookup hc⟩
  have capAt : ∀ x, (x, VK.cap) ∈ D'.vars → env.cells.lookup x = F.env.cells.lookup x := fun x hx => by
    obtain ⟨_, _, h3, h4⟩ := hC.cap x hx
    rw [hcells, lookup_append_none, clOf_lookup scope.names [] (fun c hc => by cases hc) (freeCell x h4) (.inl h4)]
    cases q : (cellsFrom (s.heap.objs.size + 1) scope.names []).lookup x with
    | none => rfl
    | some c => exact absurd (cellsFrom_names _ _ (mem_of_lookup q)) h3
  have O' : FOk P D' (compF F σ.hp X s.heap s.heap.objs.size env) := {
    fn := by show env.scope.kind = _; rw [hsc]; exact hC.kind
    locals := by show env.locals = _; rw [henv]; rfl
    globals := by show env.globals = _; rw [henv]; exact O.globals
    builtins := by show env.builtins = _; rw [henv]; exact O.builtins
    loc := fun x hx => by show env.kindOf x = _; rw [kindOf]; exact relabel_keep (by decide) (hC.loc x hx)
    cell := fun x hx => by
      obtain ⟨c, hc, hm⟩ := cellAt x hx
      have hlt := (hcell x c hm).2
      exact ⟨by show env.kindOf x = _; rw [kindOf]; exact relabel_keep (by decide) (hC.cell x hx), c, hc, Nat.ne_of_gt hlt, gNone c (Nat.le_of_lt hlt), oNone c (Nat.le_of_lt hlt)⟩
    cellInj := fun x y c hx hy hcx hcy => by
      obtain ⟨c1, hc1, hm1⟩ := cellAt x hx
      obtain ⟨c2, hc2, hm2⟩ := cellAt y hy
      have e1 : c1 = c := Option.some.inj (hc1.symm.trans hcx)
      have e2 : c2 = c := Option.some.inj (hc2.symm.trans hcy)
      subst e1; rw [e2] at hm2
      exact pairwise_inj hap hm1 hm2
    cap := fun x hx => by
      obtain ⟨h1, h2, h3, h4⟩ := hC.cap x hx
      refine ⟨?_, ?_⟩
      · rcases relabel_free (env := F.env) h1 with h | h
        · exact .inr ⟨by show env.kindOf x = _; rw [kindOf]; exact h, h2⟩
        · exact .inl (by show env.kindOf x = _; rw [kindOf]; exact h)
      · obtain ⟨c, hc⟩ := freeCell x h4
        exact ⟨c, by show env.cells.lookup x = _; rw [capAt x hx]; exact hc⟩
    glob := fun x hx => by show env.kindOf x = _; rw [kindOf]; exact relabel_keep (by decide) (hC.glob x hx)
    nd := hC.nd
    X := O.X
    T := O.T
    kbg := fun b o e => compG_sub O R hX (O.kbg b o e)
    frames := O.frames
    frs := fun e he => by
      obtain ⟨h1, L, h2, h3⟩ := O.frs e he
      have hm : L ∈ F.L :: F.outs.map (·.1) := by
        rcases h3 with rfl | ⟨o, ho⟩
        · exact List.mem_cons_self ..
        · exact List.mem_cons_of_mem _ (List.mem_map.mpr ⟨_, ho, rfl⟩)
      obtain ⟨q, hq, e2⟩ := List.mem_map.mp ((curOuts_keys R L).mpr hm)
      exact ⟨h1, L, h2, .inr ⟨q.2, by rw [← e2]; exact hq⟩⟩
    outsOk := fun q hq => by
      obtain ⟨h1, h2⟩ := curOuts_mem.mp hq
      refine ⟨?_, fun vs hv => ?_, Nat.ne_of_lt (Heap.lt_size h1)⟩
      · show (compG F σ.hp X s.heap).get? q.1 = none
        cases e : (compG F σ.hp X s.heap).get? q.1 with
        | none => rfl
        | some o => exact absurd h2 (of_compG e).2.2.1
      · rcases List.mem_cons.mp h2 with e | hm
        · obtain ⟨m, ⟨o, es, ep, e', hd', _⟩, _⟩ := R.ns
          rw [e, e'] at h1; cases h1
          rw [hd'] at hv; cases hv
        · obtain ⟨q', hq', e⟩ := List.mem_map.mp hm
          obtain ⟨sl, e'⟩ := R.outs q' hq'
          have h1' : s.heap.get? q'.1 = some q.2 := by rw [e]; exact h1
          have e2 : q.2 = { q'.2 with slots := sl } := Option.some.inj (h1'.symm.trans e')
          rw [e2] at hv
          exact (O.outsOk q' hq').2.1 vs hv
    Lg := gNone _ (Nat.le_refl _)
    above := by
      show F.kb.objs.size ≤ s.heap.objs.size
      obtain ⟨m, ⟨o, _, _, e, _⟩, _⟩ := R.ns
      exact Nat.le_trans O.above (Nat.le_of_lt (Heap.lt_size e))
    depth := by
      have h1 := O.depth
      have h2 := hC.depth
      show F.A.depth + 20 * D'.depth ≤ 900
      (first | lia | omega)
    units := by
      have h1 := O.units
      have h2 := hC.depth
      show F.A.units + 100 * D'.depth ≤ 9000
      (first | lia | omega)
    hh := fun h => O.hh (hC.calm h)
    fnOk := fun h => by rw [hC.fn] at h; cases h }
  refine ⟨O', ?_⟩
  have hpN : ∀ b, s.heap.objs.size ≤ b → σ.hp b = none := fun b hb => by
    cases q : σ.hp b with
    | none => rfl
    | some o => obtain ⟨ob, e⟩ := AObj.at_some (R.hp b o q).1; exact absurd (Heap.lt_size e) (Nat.not_lt.mpr hb)
  have capOnly : ∀ i v, capLoc m σ.loc i = some v → ∃ j, m[i]? = some (some j) ∧ σ.loc j = some v := fun i v h => by
    unfold capLoc at h
    split at h
    · rename_i j e; exact ⟨j, e, h⟩
    · cases h
  exact {
    ns := ⟨_, hns, fun i x v hi hv => by
      obtain ⟨j, hj, _⟩ := capOnly i v hv
      obtain ⟨y, hy, _⟩ := hC.map i j hj
      rw [hi] at hy; cases hy⟩
    cell := fun i x hi c hc => by
      obtain ⟨c', hc', hm⟩ := cellAt x (List.mem_of_getElem? hi)
      have e : c' = c := Option.some.inj (hc'.symm.trans hc)
      subst e
      refine ⟨hpN c' (Nat.le_of_lt (hcell x c' hm).2), none, (hcell x c' hm).1, fun v hv => ?_⟩
      obtain ⟨j, hj, _⟩ := capOnly i v hv
      obtain ⟨y, hy, _⟩ := hC.map i j hj
      rw [hi] at hy; cases hy
    cap := fun i x v hi hv => by
      obtain ⟨j, hj, hv'⟩ := capOnly i v hv
      obtain ⟨y, hy, hD⟩ := hC.map i j hj
      rw [hi] at hy; cases hy
      have hmem : (x, VK.cap) ∈ D'.vars := List.mem_of_getElem? hi
      rcases hD with hD | hD
      · obtain ⟨_, c, hc, _⟩ := O.cell x (List.mem_of_getElem? hD)
        obtain ⟨h1, u, ⟨o, e, hd⟩, q⟩ := R.cell j x hD c hc
        obtain ⟨u', rfl, hrep⟩ := q v hv'
        exact ⟨c, u', by show env.cells.lookup x = _; rw [capAt x hmem]; exact hc, ⟨o, comp_cell_in O R hX hD hc e, hd⟩, hrep⟩
      · obtain ⟨c, u, hc, ⟨o, e, hd⟩, hrep⟩ := R.cap j x v hD hv'
        exact ⟨c, u, by show env.cells.lookup x = _; rw [capAt x hmem]; exact hc, ⟨o, compG_sub O R hX e, hd⟩, hrep⟩
    keep := fun b o e => hk b o (of_compG e).1
    outs := fun q hq => ⟨q.2.slots, hk _ _ (curOuts_mem.mp hq).1⟩
    hp := fun a o e => by
      obtain ⟨x, y, z⟩ := R.hp a o e
      refine ⟨AObj.at_of x fun ob eo => hk _ _ eo, y, fun hf => ?_⟩
      obtain ⟨z1, z2, z3⟩ := z hf
      obtain ⟨ob, eo⟩ := AObj.at_some x
      refine ⟨?_, Nat.ne_of_lt (Heap.lt_size eo), fun hm => ?_⟩
      · show (compG F σ.hp X s.heap).get? a = none
        cases q : (compG F σ.hp X s.heap).get? a with
        | none => rfl
        | some o' => have := (of_compG q).2.1; unfold tracked at this; rw [e] at this; simp [hf] at this
      · exact (List.mem_cons.mp ((curOuts_keys R a).mp hm)).elim z2 z3
    gens := R.gens
    os := R.os }
end
end
section
section
variable {P : PC} {D D' : FD} {F : FX} {σ : St} {s : Shared}

structure CompDone (P : PC) (D : FD) (F : FX) (σ₂ : St) (Q : List AV → St → Prop) (acc : Value) (C : Addr) (s' : Shared) : Prop where
  out : ∃ a m' l σ', acc = .ref a ∧ Rel P D F ⟨σ₂.loc, σ'.hp⟩ s' ∧ AccAt P D F ⟨σ₂.loc, σ'.hp⟩ s' a l ∧ Unt D F ⟨σ₂.loc, σ'.hp⟩ C ∧ s'.heap.Ns C m' ∧ C ≠ a ∧ Q l σ'

theorem comp_core {elt : Expr} {t i : Expr} {fs : List Expr} {rest : List Comprehension} {scope : Scope} {pos : Pos} {m : List (Option Nat)} {K : Value → Env → Sem Unit} {K' : Value → Env → Sem Fin → Sem Fin} {tgt : AV → SP} {ts : Option TP} {c : CP}
    (hC : CompOk D D' scope m)
    (hT : ∀ it acc env, compTurn (.ListComp elt (⟨t, i, fs, 0⟩ :: rest) scope pos) 0 it acc env = turnOf (.ListComp elt (⟨t, i, fs, 0⟩ :: rest) scope pos) 0 t i fs (K' acc env) it acc env)
    (hKK : ∀ acc env k A (Q : Fin → Shared → Prop) E s, wpAny (model P.prog P.w) A (K acc env) (fun _ s' => wpAny (model P.prog P.w) A k Q E s') (fun _ _ => False) s → wpAny (model P.prog P.w) A (K' acc env k) Q E s)
    (ht : SimA P D' t tgt) (hts : SimTs P D' fs ts) (hK : SimK P D' K c)
    (O : FOk P D F) {I : Addr} {items : List AV} {guard : St → Prop} {Ob : Nat → Obj → Prop} {o : Obj} {Q : List AV → St → Prop} {E : Value → Shared → Prop} (W : ∀ D', ItOk P D' F.A I items guard Ob) (R : Rel P D F σ s) (uI : Unt D F σ I)
    (hI : s.heap.get? I = some o) (ho : Ob 0 o) (h : cLoop items guard tgt (cTest ts c) Q [] ⟨capLoc m σ.loc, σ.hp⟩) :
    wpAny (model P.prog P.w) F.A (newList []) (fun acc s₃ => wpAny (model P.prog P.w) F.A (newFunctionEnv scope F.env.globals (clOf F.env scope.names []) [] F.env.qual none .none (some F.env)) (fun cenv s₄ =>
      codeAny (model P.prog P.w) F.A (.compStart (.ListComp elt (⟨t, i, fs, 0⟩ :: rest) scope pos) 0 (.ref I) acc { cenv with scope := relabel scope F.env }) (fun r s' => r = .ok .next ∧ CompDone P D F σ Q acc cenv.locals s') s₄) E s₃) E s := by
  have ua : Unt D F σ s.heap.objs.size := R.fresh (heap_size_none _)
  have nIa : I ≠ s.heap.objs.size := Nat.ne_of_lt (Heap.lt_size hI)
  refine wpAny_newObj_type (new_comp_env hC.kind fun h' hns hk hcell hap hne => ?_)
  have R₃ : Rel P D F σ { s with heap := s.heap.push { cls := .type "list", dict := none, data := .seq ([] : List Value).toArray } } := R.pushU _
  have hX : ∀ b ∈ [I, s.heap.objs.size], Unt D F σ b := fun b hb => by
    rcases List.mem_cons.mp hb with rfl | hb
    · exact uI
    · rw [List.mem_singleton.mp hb]; exact ua
  obtain ⟨O', R'⟩ := comp_frame (X := [I, s.heap.objs.size]) (h' := h') hC O R₃ hX hns hk hcell hap rfl
  have hIp : (s.heap.push { cls := .type "list", dict := none, data := .seq ([] : List Value).toArray }).get? I = some o := Heap.get?_push_of_some _ hI
  have hap' : (s.heap.push { cls := .type "list", dict := none, data := .seq ([] : List Value).toArray }).get? s.heap.objs.size = some { cls := .type "list", dict := none, data := .seq ([] : List Value).toArray } := Heap.get?_push_size _ rfl
  have toUnt : ∀ b ob, b ∈ [I, s.heap.objs.size] → (s.heap.push { cls := .type "list", dict := none, data := .seq ([] : List Value).toArray }).get? b = some ob →
      Unt D' (compF F σ.hp [I, s.heap.objs.size] (s.heap.push { cls := .type "list", dict := none, data := .seq ([] : List Value).toArray }) (s.heap.push { cls := .type "list", dict := none, data := .seq ([] : List Value).toArray }).objs.size
        { newEnv scope (s.heap.push { cls := .type "list", dict := none, data := .seq ([] : List Value).toArray }).objs.size F.env.globals (cellsFrom ((s.heap.push { cls := .type "list", dict := none, data := .seq ([] : List Value).toArray }).objs.size + 1) scope.names [] ++ clOf F.env scope.names []) F.env.qual none .none (some F.env) builtinsNs with scope := relabel scope F.env }) ⟨capLoc m σ.loc, σ.hp⟩ b := by
    intro b ob hb e
    have hu := hX b hb
    refine ⟨⟨Nat.ne_of_lt (Heap.lt_size e), ?_, fun hm => ?_, fun x c hx hc q => ?_⟩, hu.2⟩
    · show (compG F σ.hp _ _).get? b = none
      cases q : (compG F σ.hp [I, s.heap.objs.size] (s.heap.push { cls := .type "list", dict := none, data := .seq ([] : List Value).toArray })).get? b with
      | none => rfl
      | some o' => exact absurd hb (of_compG q).2.2.2
    · rcases List.mem_cons.mp ((curOuts_keys R₃ b).mp hm) with e1 | e1
      · exact hu.1.L e1
      · exact hu.1.outs e1
    · obtain ⟨j, hj⟩ := List.mem_iff_getElem?.mp hx
      obtain ⟨_, c', hc', _⟩ := O'.cell x hx
      have hc2 := hc.symm.trans hc'
      have := (hcell x c (by
        have h1 := cells_some (x := x) scope.names ((s.heap.push { cls := .type "list", dict := none, data := .seq ([] : List Value).toArray }).objs.size + 1) [] (hC.cell x hx)
        obtain ⟨c1, hc1⟩ := Option.isSome_iff_exists.mp h1
        have h2 : (cellsFrom ((s.heap.push { cls := .type "list", dict := none, data := .seq ([] : List Value).toArray }).objs.size + 1) scope.names [] ++ clOf F.env scope.names []).lookup x = some c1 := lookup_append_some hc1
        have h3 : some c = some c1 := hc.symm.trans h2
        cases h3
        exact mem_of_lookup hc1)).2
      rw [q] at this
      exact absurd (Heap.lt_size e) (Nat.not_lt.mpr (Nat.le_of_lt this))
  have loop := loop_sim hT hKK ht hts hK O' (I := I) (a := s.heap.objs.size) (l := []) (W D') R' (toUnt I _ (by simp) hIp) (hk _ _ hIp) ho ⟨toUnt s.heap.objs.size _ (by simp) hap', ⟨[], 0, hk _ _ hap', trivial, Nat.zero_le _⟩⟩ (Ne.symm nIa) h
  refine codeAny_mono (codeAny_compStart_list loop ((W D').self 0 o _ _ _ ho (hk _ _ hIp) loop)) ?_
  rintro r s' ⟨rfl, l', σ', R₄, x₄, h₄⟩
  refine ⟨rfl, ⟨s.heap.objs.size, ?_⟩⟩
  have R₅ := comp_back O R₃ hX R₄
  obtain ⟨mm, hmm, _⟩ := R₄.ns
  refine ⟨mm, l', σ', rfl, R₅, ⟨comp_unt O R₃ hX x₄.unt, x₄.obj⟩, ?_, hmm, ?_, h₄⟩
  · have fr : Free D F (s.heap.push { cls := .type "list", dict := none, data := .seq ([] : List Value).toArray }).objs.size := (R₃.fresh (heap_size_none _)).1
    refine ⟨fr, ?_⟩
    show σ'.hp _ = none
    cases q : σ'.hp (s.heap.push { cls := .type "list", dict := none, data := .seq ([] : List Value).toArray }).objs.size with
    | none => exact q
    | some oo =>
      exfalso
      obtain ⟨_, y, z⟩ := R₄.hp _ oo q
      cases hfz : oo.frozen with
      | false => exact (z hfz).2.1 rfl
      | true =>
        obtain ⟨o2, e2⟩ := Option.isSome_iff_exists.mp (y hfz)
        exact nomatch (e2.symm.trans O'.kbL)
  · exact Ne.symm (Nat.ne_of_lt (Heap.lt_size hap'))

noncomputable def pComp (m : List (Option Nat)) (src : IP) (tgt : AV → SP) (c : CP) : EP := fun Q E σ => src (fun items guard σ₁ => cLoop items guard tgt c (fun l σ' => ∀ a, σ'.hp a = none → Q (.ref a) ⟨σ₁.loc, upd σ'.hp a (.list l)⟩) [] ⟨capLoc m σ₁.loc, σ₁.hp⟩) E σ

theorem CompDone.post {σ₂ : St} {Q : AV → St → Prop} {acc : Value} {C : Addr} {s' : Shared} (x : CompDone P D F σ₂ (fun l σ' => ∀ a, σ'.hp a = none → Q (.ref a) ⟨σ₂.loc, upd σ'.hp a (.list l)⟩) acc C s') {h' : Heap} (hs : Heap.SameBut C s'.heap h') : RE P D F Q acc { s' with heap := h' } := by
  obtain ⟨a, m', l, σ', rfl, R, xa, uC, hn, ne, hq⟩ := x.out
  refine ⟨.ref a, ⟨σ₂.loc, upd σ'.hp a (.list l)⟩, rfl, ?_, hq a xa.unt.2⟩
  have := R.change (fun b => b = C ∨ b = a) (h' := h') (t := s'.toks) (hp' := upd σ'.hp a (.list l)) (fun b hb => hb.elim (fun e => e ▸ uC.1) fun e => e ▸ xa.unt.1) (fun b ob hb e => (hs.2 b fun q => hb (.inl q)).trans e) fun b ob e => ?_
  · exact this
  · by_cases hb : b = a
    · subst hb
      have : ob = .list l := by simpa [upd] using e.symm
      subst this
      exact .inr ⟨xa.unt.1, rfl, AObj.at_of xa.obj fun ob' e' => (hs.2 b (Ne.symm ne)).trans e'⟩
    · have e' : σ'.hp b = some ob := by simpa [upd, hb] using e
      refine .inl ⟨e', fun q => q.elim (fun q => ?_) hb⟩
      have := uC.2
      rw [q] at e'
      rw [show σ'.hp C = none from this] at e'; cases e'

theorem sim_comp {elt : Expr} {t i : Expr} {fs : List Expr} {rest : List Comprehension} {scope : Scope} {pos : Pos} {m : List (Option Nat)} {K : Value → Env → Sem Unit} {K' : Value → Env → Sem Fin → Sem Fin} {src : IP} {tgt : AV → SP} {ts : Option TP} {c : CP}
    (hC : CompOk D D' scope m)
    (hT : ∀ it acc env, compTurn (.ListComp elt (⟨t, i, fs, 0⟩ :: rest) scope pos) 0 it acc env = turnOf (.ListComp elt (⟨t, i, fs, 0⟩ :: rest) scope pos) 0 t i fs (K' acc env) it acc env)
    (hKK : ∀ acc env k A (Q : Fin → Shared → Prop) E s, wpAny (model P.prog P.w) A (K acc env) (fun _ s' => wpAny (model P.prog P.w) A k Q E s') (fun _ _ => False) s → wpAny (model P.prog P.w) A (K' acc env k) Q E s)
    (hi : SimI P D i src) (ht : SimA P D' t tgt) (hts : SimTs P D' fs ts) (hK : SimK P D' K c) (hs : ∀ env x, foldedSetIterable i env x = pure x) :
    SimE P D (.ListComp elt (⟨t, i, fs, 0⟩ :: rest) scope pos) (pComp m src tgt (cTest ts c)) := by
  intro F O σ s Q E R hp
  have freeCell : ∀ x, (x, NameKind.free) ∈ scope.names → ∃ c, F.env.cells.lookup x = some c := fun x hx => by
    rcases hC.free x hx with h | h
    · obtain ⟨_, c, hc, _⟩ := O.cell x h; exact ⟨c, hc⟩
    · exact (O.cap x h).2
  rw [eval_ListComp]
  refine wpAny_comprehension_free rfl (hs _) (closureFor_eq freeCell) hC.kind hC.names ?_
  refine wpAny_mono (hi F O σ s _ E R hp) ?_ fun _ _ x => x
  intro x s₁ h₁
  refine wpAny_mono h₁ ?_ fun _ _ x => x
  rintro it s₂ ⟨I, items, guard, Ob, σ₂, o₂, rfl, R₂, u₂, hI₂, ho₂, W, hL⟩
  refine wpAny_mono (comp_core hC hT hKK ht hts hK O W R₂ u₂ hI₂ ho₂ hL) ?_ fun _ _ x => x
  intro acc s₃ h₃
  refine wpAny_mono h₃ ?_ fun _ _ x => x
  intro cenv s₄ h₄
  refine codeAny_mono h₄ ?_
  rintro r s' ⟨rfl, x⟩
  obtain ⟨a, m', l, σ', _, _, _, _, hn, _⟩ := x.out
  exact ⟨m', hn, fun h' hs' => x.post hs'⟩

theorem sim_assignComp {elt : Expr} {t i : Expr} {fs : List Expr} {rest : List Comprehension} {scope : Scope} {pos apos npos : Pos} {y : Str} {m : List (Option Nat)} {K : Value → Env → Sem Unit} {K' : Value → Env → Sem Fin → Sem Fin} {src : IP} {tgt : AV → SP} {ts : Option TP} {c : CP} {f : AV → SP}
    (hC : CompOk D D' scope m)
    (hT : ∀ it acc env, compTurn (.ListComp elt (⟨t, i, fs, 0⟩ :: rest) scope pos) 0 it acc env = turnOf (.ListComp elt (⟨t, i, fs, 0⟩ :: rest) scope pos) 0 t i fs (K' acc env) it acc env)
    (hKK : ∀ acc env k A (Q : Fin → Shared → Prop) E s, wpAny (model P.prog P.w) A (K acc env) (fun _ s' => wpAny (model P.prog P.w) A k Q E s') (fun _ _ => False) s → wpAny (model P.prog P.w) A (K' acc env k) Q E s)
    (hi : SimI P D i src) (ht : SimA P D' t tgt) (hts : SimTs P D' fs ts) (hK : SimK P D' K c) (hs : ∀ env x, foldedSetIterable i env x = pure x) (hy : SimA P D (.Name y npos) f) :
    SimS P D (.Assign [.Name y npos] (.ListComp elt (⟨t, i, fs, 0⟩ :: rest) scope pos) apos) (sAssign (pComp m src tgt (cTest ts c)) f) := by
  intro F O σ s Q E R hp
  have hsw : ∃ b, swapsWith (.ListComp elt (⟨t, i, fs, 0⟩ :: rest) scope pos) (some (.Name y npos)) apos.line F.env = pure b := ⟨_, rfl⟩
  obtain ⟨b, hb⟩ := hsw
  cases b with
  | false =>
    refine wpAny_Assign_stores (wpAny_mono (sim_comp hC hT hKK hi ht hts hK hs F O σ s _ E R hp) ?_ fun _ _ x => x) hb rfl
    rintro u s₁ ⟨v, σ₁, hv, R₁, h₁⟩
    exact wpAny_mono (hy F O v u hv σ₁ s₁ Q E R₁ h₁) (fun _ _ x => flow_next x) fun _ _ x => x
  | true =>
    rw [exec_Assign_Name_used _ _ _ _ hb]
    refine wpAny_bind (wpAny_standAt (wpAny_bind ?_))
    rw [arm_evalThenUse_ListComp]
    have freeCell : ∀ x, (x, NameKind.free) ∈ scope.names → ∃ c, F.env.cells.lookup x = some c := fun x hx => by
      rcases hC.free x hx with h | h
      · obtain ⟨_, c, hc, _⟩ := O.cell x h; exact ⟨c, hc⟩
      · exact (O.cap x h).2
    refine wpAny_bind (wpAny_comprehension_free (use := some (assign (.Name y npos) F.env)) rfl (hs _) (closureFor_eq freeCell) hC.kind hC.names ?_)
    refine wpAny_mono (hi F O σ s _ E R hp) ?_ fun _ _ x => x
    intro x s₁ h₁
    refine wpAny_mono h₁ ?_ fun _ _ x => x
    rintro it s₂ ⟨I, items, guard, Ob, σ₂, o₂, rfl, R₂, u₂, hI₂, ho₂, W, hL⟩
    refine wpAny_mono (comp_core hC hT hKK ht hts hK O W R₂ u₂ hI₂ ho₂ hL) ?_ fun _ _ x => x
    intro acc s₃ h₃
    refine wpAny_mono h₃ ?_ fun _ _ x => x
    intro cenv s₄ h₄
    refine codeAny_mono h₄ ?_
    rintro r s' ⟨rfl, x⟩
    obtain ⟨a, m', l, σ', rfl, Rc, xa, uC, hn, ne, hq⟩ := id x.out
    have Rt : Rel P D F ⟨σ₂.loc, upd σ'.hp a (.list l)⟩ s' := by
      have := Rc.change (fun b => b = a) (h' := s'.heap) (t := s'.toks) (hp' := upd σ'.hp a (.list l)) (fun b e => e ▸ xa.unt.1) (fun b ob hb e => e) fun b ob e => ?_
      · exact this
      · by_cases hb : b = a
        · subst hb
          have : ob = .list l := by simpa [upd] using e.symm
          subst this
          exact .inr ⟨xa.unt.1, rfl, xa.obj⟩
        · exact .inl ⟨by simpa [upd, hb] using e, hb⟩
    have uC' : Unt D F ⟨σ₂.loc, upd σ'.hp a (.list l)⟩ cenv.locals := ⟨uC.1, by show upd σ'.hp a (.list l) _ = none; unfold upd; rw [if_neg ne]; exact uC.2⟩
    obtain ⟨oC, es, ep, hC1, hC2, hC3⟩ := id hn
    have nc : ∀ v, oC.data ≠ .cell v := fun v hv => by rw [hC2] at hv; cases hv
    have hy' := hy _ (O.prot Rt uC') (.ref a) (.ref a) rfl _ _ Q E (Rt.prot uC') (hq a xa.unt.2)
    refine wpAny_mono hy' ?_ fun e s₅ x => RX.unprot Rt hC1 nc x
    rintro _ s₅ ⟨σ₅, R₅, h₅⟩
    obtain ⟨R₆, e₆⟩ := Rt.unprot hC1 nc R₅
    have u₆ := unt_back O uC' hC1 R₅
    refine ⟨m', ⟨oC, es, ep, e₆, hC2, hC3⟩, fun h' hs' => ?_⟩
    refine wpAny_pure (wpAny_pure (flow_next ⟨σ₅, ?_, h₅⟩))
    exact R₆.change (fun b => b = cenv.locals) (t := s₅.toks) (fun b e => e ▸ u₆.1) (fun b ob hb e => (hs'.2 b hb).trans e) fun b ob e => .inl ⟨e, fun q => by rw [q, u₆.2] at e; cases e⟩

theorem kk_emit {elt : Expr} (acc : Value) (env : Env) (k : Sem Fin) (A : Around) (Q : Fin → Shared → Prop) (E : Value → Shared → Prop) (s : Shared) (h : wpAny (model P.prog P.w) A (emitK elt acc env) (fun _ s' => wpAny (model P.prog P.w) A k Q E s') (fun _ _ => False) s) : wpAny (model P.prog P.w) A (emitC elt acc env k) Q E s :=
  wpAny_bind (wpAny_mono h (fun _ _ h => h) fun _ _ z => z.elim)
theorem sim_comp1 {elt t i : Expr} {fs : List Expr} {scope : Scope} {pos : Pos} {m : List (Option Nat)} {src : IP} {tgt : AV → SP} {ts : Option TP} {pe : EP}
    (hC : compOkB D D' scope m = true) (hi : SimI P D i src) (ht : SimA P D' t tgt) (hts : SimTs P D' fs ts) (he : SimE P D' elt pe) (hs : ∀ env x, foldedSetIterable i env x = pure x := by intro _ _; rfl) :
    SimE P D (.ListComp elt [⟨t, i, fs, 0⟩] scope pos) (pComp m src tgt (cTest ts (cEmit pe))) := sim_comp (CompOk.of hC) turn_one kk_emit hi ht hts (simK_emit he) hs
theorem sim_asgComp1 {elt t i : Expr} {fs : List Expr} {scope : Scope} {pos apos npos : Pos} {y : Str} {m : List (Option Nat)} {src : IP} {tgt : AV → SP} {ts : Option TP} {pe : EP} {f : AV → SP}
    (hC : compOkB D D' scope m = true) (hi : SimI P D i src) (ht : SimA P D' t tgt) (hts : SimTs P D' fs ts) (he : SimE P D' elt pe) (hy : SimA P D (.Name y npos) f) (hs : ∀ env x, foldedSetIterable i env x = pure x := by intro _ _; rfl) :
    SimS P D (.Assign [.Name y npos] (.ListComp elt [⟨t, i, fs, 0⟩] scope pos) apos) (sAssign (pComp m src tgt (cTest ts (cEmit pe))) f) := sim_assignComp (CompOk.of hC) turn_one kk_emit hi ht hts (simK_emit he) hs hy
end
end
section
section
variable {P : PC} {D : FD} {F : FX} {σ : St} {s : Shared}

-- what is never reached
noncomputable def sDead : SP := fun _ _ _ => False
noncomputable def eDead : EP := fun _ _ _ => False
theorem sim_ssdead (st : List Stmt) : SimSs P D st sDead := fun _ _ _ _ _ _ _ h => h.elim
-- (x := e)
noncomputable def pWal (p : EP) (f : AV → SP) : EP := fun Q E σ => p (fun v σ₁ => f v (fun _ σ₂ => Q v σ₂) E σ₁) E σ
theorem sim_wal {t value : Expr} {pos : Pos} {p : EP} {f : AV → SP} (h : SimE P D value p) (ht : SimA P D t f) : SimE P D (.NamedExpr t value pos) (pWal p f) := by
  intro F O σ s Q E R hp
  refine wpAny_NamedExpr (wpAny_mono (h F O σ s _ E R hp) ?_ fun _ _ x => x)
  rintro u s₁ ⟨v, σ₁, hv, R₁, h₁⟩
  refine wpAny_mono (ht F O v u hv σ₁ s₁ _ E R₁ h₁) ?_ fun _ _ x => x
  rintro _ s₂ ⟨σ₂, R₂, h₂⟩
  exact ⟨v, σ₂, hv, R₂, h₂⟩

-- d.values()
noncomputable def iVals (o : EP) : IP := fun Q E σ => o (fun v σ₁ => ∃ a es ep, v = .ref a ∧ σ₁.hp a = some (.dict es ep) ∧ Q (es.map (·.2)) (fun σ => σ.hp a = some (.dict es ep)) σ₁) E σ
theorem sim_iVals {o : Expr} {apos pos : Pos} {x : Str} {po : EP} (ho : SimE P D o po) (hx : x = ("values" : Str) := by rfl) (hc : D.calm = true := by rfl) 
    (hbase : ∀ env, attributeBase o x env (eval o env) = eval o env := by intro _; rfl)
    (hline : (apos.endLine == pos.line) = true := by rfl) : SimI P D (.Call (.Attribute o x apos) [] [] pos) (iVals po) := by
  intro F O σ s Q E R hp
  subst hx
  rw [arm_eval_Call, hbase]
  refine wpAny_bind (wpAny_mono (ho F O σ s _ E R hp) ?_ fun _ _ x => x)
  rintro ov s₁ ⟨av, σ₁, hav, R₁, a, es, ep, rfl, h1, h2⟩
  subst hav
  refine wpAny_bind (wpAny_standAt ?_)
  have hpos : methodCallPos true o F.env apos pos = pure pos := by unfold methodCallPos; simp [hline]
  obtain ⟨t1, ob', t2, t3⟩ := ty_is R₁ h1 rfl
  obtain ⟨kvs, hd, hes, hsys, hz⟩ := (R₁.hp a _ h1).1
  have hl := dictEs_len hes
  unfold methodCall
  refine wpAny_bind (wpAny_holding (getMethod_builtin t1 PySem.F.plainAttrs_dict PySem.F.slot_dict_values PySem.F.type_dict_values (fun a' e => by cases e; exact ⟨ob', t2, t3⟩) ?_))
  refine wpAny_bind (wpAny_of_eq hpos ?_)
  refine callWith_builtin rfl (wpAny_pure ?_)
  refine call_meetsIn PySem.F.slot_dict_values hd.dictOf.typeIs PySem.F.entry_dict_values (PySem.F.args_dict_values_1 _) (meets_dict_values (intKind P.prog P.w) a hsys) ⟨⟨kvs, hd.dictOf⟩, ?_⟩
  have R₂ : Rel P D F σ₁ { s₁ with heap := s₁.heap.push { cls := .type "dict_values", data := .fields #[.ref a] } } := R₁.pushU _
  obtain ⟨kvs2, hd2, hes2, _, _⟩ := (R₂.hp a _ h1).1
  have hl2 := dictEs_len hes2
  exact wpAny_pyIter_values (knd := intKind P.prog P.w) (v := s₁.heap.objs.size) ⟨_, Heap.get?_push_size _ rfl, rfl, rfl⟩ hd2 ⟨_, _, _, _, σ₁, _, rfl, R₂.pushU _, R₂.fresh (heap_size_none _), Heap.get?_push_size _ rfl, ⟨rfl, by rw [hl2]; rfl⟩, fun _ => itOk_vals (O.hh hc), h2⟩

-- del d[k]
noncomputable def opDel : AV → AV → SP
  | .ref a, .int k => fun Q _ σ => ∃ es ep, σ.hp a = some (.dict es ep) ∧ es.any (fun e => e.1 = k) = true ∧ ∀ ep', Q .next ⟨σ.loc, upd σ.hp a (.dict (es.filter fun e => e.1 ≠ k) ep')⟩
  | _, _ => fun _ _ _ => False
theorem without_es (k : Int) : ∀ {es : List (Int × AV)} {kvs : List (Int × Value)}, dictEs es kvs → dictEs (es.filter fun e => e.1 ≠ k) (without kvs k)
  | [], [], _ => ⟨rfl, trivial⟩
  | e :: es, x :: kvs, ⟨h1, h2⟩ => by
    simp only [List.map_cons, List.cons.injEq] at h1
    obtain ⟨h3, h4⟩ := h2
    have ih := without_es k (es := es) (kvs := kvs) ⟨h1.2, h4⟩
    unfold without at ih ⊢
    rw [List.filter_cons, List.filter_cons, h1.1]
    by_cases hk : e.1 = k
    · simp only [hk]; simpa using ih
    · simp only [ne_eq, hk, not_false_eq_true, decide_true, if_true]
      refine ⟨?_, ?_⟩
      · simp only [List.map_cons, List.cons.injEq]; exact ⟨h1.1, ih.1⟩
      · exact ⟨h3, ih.2⟩
  | [], _ :: _, ⟨h1, _⟩ => by simp at h1
  | _ :: _, [], ⟨h1, _⟩ => by simp at h1
theorem any_value {es : List (Int × AV)} {kvs : List (Int × Value)} (h : dictEs es kvs) (k : Int) (ha : es.any (fun e => e.1 = k) = true) : (valueAt kvs k).isSome = true := by
  cases q : (es.find? fun e => e.1 = k).map (·.2) with
  | none =>
    exfalso
    obtain ⟨e, he, hk⟩ := List.any_eq_true.mp ha
    rw [Option.map_eq_none_iff, List.find?_eq_none] at q
    exact q e he hk
  | some v => obtain ⟨u', h4, _⟩ := dict_value h k q; rw [h4]; rfl
noncomputable def sDel (o i : EP) : SP := fun Q E σ => o (fun ov σ₁ => i (fun iv σ₂ => opDel ov iv Q E σ₂) E σ₁) E σ
theorem sim_del {o i : Expr} {tp pos : Pos} {po pi : EP} (ho : SimE P D o po) (hi : SimE P D i pi) : SimS P D (.Delete [.Subscript o i tp] pos) (sDel po pi) := by
  intro F O σ s Q E R hp
  refine wpAny_Delete ?_
  rw [arm_deleteEach_cons]
  refine wpAny_bind (delete_Subscript (wpAny_mono (ho F O σ s _ E R hp) ?_ fun _ _ x => x))
  rintro ov s₁ ⟨a, σ₁, ha, R₁, h₁⟩
  refine wpAny_mono (hi F O σ₁ s₁ _ E R₁ h₁) ?_ fun _ _ x => x
  rintro iv s₂ ⟨b, σ₂, hb, R₂, h₂⟩
  cases a <;> cases b <;> try exact h₂.elim
  rename_i a k
  subst ha
  obtain ⟨t, rfl⟩ := hb
  obtain ⟨es, ep, h1, h2, h3⟩ := h₂
  obtain ⟨kvs, hd, hes, hsys, hz⟩ := (R₂.hp a _ h1).1
  have hl := dictEs_len hes
  unfold delItem
  try with_reducible refine wpAny_holding ?_
  refine wpAny_bind (wpAny_sequenceKey hd.dictOf.typeIs (by decide) ?_)
  refine wpAny_bind (wpAny_callSpecial?_slot (name := Str.ofString "__delitem__") hd.dictOf.typeIs PySem.F.slot_dict_delitem
    (call_meetsIn PySem.F.slot_dict_delitem hd.dictOf.typeIs PySem.F.entry_dict_delitem (PySem.F.args_dict_delitem_2 _ _) (meets_dict_delitem_pairs (intKind P.prog P.w) a (k := k) (by simp [intKind, Value.isInt])) ⟨kvs, hd.dictOf, (by rw [sizeLine_eq]; (first | lia | omega)), any_value hes k h2, fun h' hmm hs => ?_⟩))
  obtain ⟨o, es', ep', q⟩ := hmm
  refine wpAny_pure ?_
  rw [arm_deleteEach_nil]
  refine wpAny_pure (flow_next ⟨_, R₂.set (o' := .dict (es.filter fun e => e.1 ≠ k) ep') (t := s₂.toks + 1) h1 rfl hs rfl ⟨_, ⟨o, es', q⟩, without_es k hes, hsys, ?_⟩, h3 ep'⟩)
  exact Nat.le_trans (List.length_filter_le _ _) hz
end
end
section
theorem slot_li_ga : Slot "list_iterator" "__getattribute__" "object.__getattribute__" :=
  .of (owner := "object") (n := "__getattribute__") (by rw [typeLookup_type, builtinLookup_eq_fast]; kernel_rfl) (by decide +kernel) (by decide +kernel) (by decide +kernel)
    (by first | exact .inl (by decide +kernel) | exact .inr (by decide +kernel)) (by rw [isSubtype_type]; kernel_rfl)
theorem type_lin : typeOf (.builtin "list_iterator.__next__") = pure (.type "wrapper_descriptor") := by show builtinType _ = _; rw [builtinType_eq_fast]; kernel_rfl
theorem get_wd : typeLookup (.type "wrapper_descriptor") (Str.ofString "__get__") = pure (some (.builtin "wrapper_descriptor.__get__")) := by rw [typeLookup_type, builtinLookup_eq_fast]; kernel_rfl
theorem set_wd : typeLookup (.type "wrapper_descriptor") (Str.ofString "__set__") = pure none := by rw [typeLookup_type, builtinLookup_eq_fast]; kernel_rfl
theorem del_wd : typeLookup (.type "wrapper_descriptor") (Str.ofString "__delete__") = pure none := by rw [typeLookup_type, builtinLookup_eq_fast]; kernel_rfl
theorem li_noGetattr : typeLookup (.type "list_iterator") (Str.ofString "__getattr__") = pure none := by rw [typeLookup_type, builtinLookup_eq_fast]; kernel_rfl
theorem slot_wd_get : Slot "wrapper_descriptor" "__get__" "wrapper_descriptor.__get__" :=
  .of (owner := "wrapper_descriptor") (n := "__get__") (by rw [typeLookup_type, builtinLookup_eq_fast]; kernel_rfl) (by decide +kernel) (by decide +kernel) (by decide +kernel)
    (by first | exact .inl (by decide +kernel) | exact .inr (by decide +kernel)) (by rw [isSubtype_type]; kernel_rfl)
theorem entry_wd_get : entryFor table "wrapper_descriptor.__get__" = some Builtin.«wrapper_descriptor.__get__» := entryFor_of_fast (by kernel_rfl)
theorem args_wd_get (a b c : Value) : argsOk "wrapper_descriptor.__get__" ⟨[a, b, c], []⟩ := by unfold argsOk; kernel_rfl
theorem entry_oga : entryFor table "object.__getattribute__" = some Builtin.«object.__getattribute__» := entryFor_of_fast (by kernel_rfl)
theorem args_oga (a b : Value) : argsOk "object.__getattribute__" ⟨[a, b], []⟩ := by unfold argsOk; kernel_rfl
theorem sub_li : isSubtype (.type "list_iterator") (.type "list_iterator") = pure true := by rw [isSubtype_type]; kernel_rfl
theorem meets_wd (a : Addr) :
    Meets (Builtin.«wrapper_descriptor.__get__» ⟨[.builtin "list_iterator.__next__", .ref a, .type "list_iterator"], []⟩) (fun _ R s => s.TypeIs (.ref a) "list_iterator" ∧ R (.ok (.ret (.ref s.heap.objs.size))) { s with heap := s.heap.push { cls := .type "method-wrapper", data := .fields #[.builtin "list_iterator.__next__", .ref a] } }) :=
  Meets.of_wp fun prog w A R s hs => by
    obtain ⟨hT, hs⟩ := hs
    unfold Builtin.«wrapper_descriptor.__get__»
    refine wpAny_bind (wpAny_of_eq (a := (.builtin "list_iterator.__next__", some (.ref a), some (.type "list_iterator"))) (by first | rfl | kernel_rfl) ?_)
    refine wpAny_bind ?_
    refine wpAny_mono (Q := fun _ s' => s' = s) (E := fun _ _ => False) ?_ ?_ fun _ _ z => z.elim
    · show wpAny _ _ (isInstance (.ref a) (.type "list_iterator") >>= _) _ _ _
      refine wpAny_bind (wpAny_isInstance hT sub_li ?_)
      exact wpAny_pure rfl
    · rintro _ _ rfl
      exact wpAny_bind (wpAny_newObj_type (wpAny_pure ⟨_, rfl, hs⟩))
theorem meets_next (a l : Addr) (u : Tok) :
    Meets (Builtin.«object.__getattribute__» ⟨[.ref a, .str "__next__" u], []⟩) (fun _ R s => s.heap.get? a = some { cls := .type "list_iterator", data := .fields #[.ref l, .int 0 0] } ∧ R (.ok (.ret (.ref s.heap.objs.size))) { s with heap := s.heap.push { cls := .type "method-wrapper", data := .fields #[.builtin "list_iterator.__next__", .ref a] } }) :=
  Meets.of_wp fun prog w A R s hs => by
    obtain ⟨hp, g, d, tk, os⟩ := s
    obtain ⟨hx, hs⟩ := hs
    have hT : (⟨hp, g, d, tk, os⟩ : Shared).TypeIs (.ref a) "list_iterator" := ⟨_, hx, rfl⟩
    have f1 := slot_listiter_next.lookup
    have f2 := type_lin
    have f3 := get_wd
    have f4 := set_wd
    have f5 := del_wd
    unfold Builtin.«object.__getattribute__»
    repeat (any_goals (first | assumption | ((with_reducible show wpAny _ _ (call (Value.builtin "wrapper_descriptor.__get__") _ _) _ _ _); refine call_meets slot_wd_get f2 entry_wd_get (args_wd_get _ _ _) (meets_wd a) ⟨hT, ?_⟩) | wp_step))
    exact wpAny_pure ⟨_, rfl, hs⟩
theorem attr_next {prog : Program} {w : World} {A : Around} {E : Value → Shared → Prop} {s : Shared} {a l : Addr} {Q : Value → Shared → Prop} (hx : s.heap.get? a = some { cls := .type "list_iterator", data := .fields #[.ref l, .int 0 0] })
    (h : Q (.ref s.heap.objs.size) { s with heap := s.heap.push { cls := .type "method-wrapper", data := .fields #[.builtin "list_iterator.__next__", .ref a] }, toks := s.toks + 1 }) : wpAny (model prog w) A (getAttr (.ref a) "__next__" true) Q E s := by
  obtain ⟨hp, g, d, tk, os⟩ := s
  have hT : ∀ tk', (⟨hp, g, d, tk', os⟩ : Shared).TypeIs (.ref a) "list_iterator" := fun _ => ⟨_, hx, rfl⟩
  have f3 := slot_li_ga.lookup
  have f4 := slot_li_ga.bind (.ref a)
  have f5 := li_noGetattr
  unfold getAttr getAttrBy
  repeat (any_goals (first | assumption | exact hT _ | ((with_reducible show wpAny _ _ (call (Value.builtin "object.__getattribute__") _ _) _ _ _); refine call_meets slot_li_ga (hT _) entry_oga (args_oga _ _) (meets_next a l _) ⟨hx, ?_⟩) | wp_step))
  show wpAny _ _ (handedOut (.ref _)) Q E _
  exact wpAny_pure h

section
variable {P : PC} {D : FD} {F : FX} {σ : St} {s : Shared}
noncomputable def pIterNext (p : EP) : EP := fun Q E σ => p (fun v σ₁ => ∃ l items, v = .ref l ∧ σ₁.lst l = some items ∧ ∀ I u, I ≠ u → σ₁.hp I = none → σ₁.hp u = none → Q (.ref u) ⟨σ₁.loc, upd (upd σ₁.hp I (.iter l 0)) u (.next I)⟩) E σ
theorem sim_iterNext {x attr : Str} {np cpos pos : Pos} {e : Expr} {p : EP} (hx : x ∈ D.globs) (hf : freeName P x) (hv : bootBuiltins x = some (.builtin "iter")) (ha : attr = ("__next__" : Str)) (h : SimL P D [e] (lCons p lNil))
    (hbase : ∀ env, attributeBase (.Call (.Name x np) [e] [] cpos) attr env (eval (.Call (.Name x np) [e] [] cpos) env) = eval (.Call (.Name x np) [e] [] cpos) env := by intro _; rfl)
    (he : ∀ env, starEach [e] env = (false, eval e env) :: starEach [] env := by intro _; rfl) (hd : (x == ("__debug__" : Str)) = false := by decide) :
    SimE P D (.Attribute (.Call (.Name x np) [e] [] cpos) attr pos) (pIterNext p) := by
  intro F O σ s Q E R hp
  subst ha
  rw [arm_eval_Attribute, hbase]
  refine wpAny_bind ?_
  refine wpAny_Call_ofName (glob_bi O R hx hf hv ?_ hd)
  refine PyProof.Rows.callWith_builtin1 (wpAny_mono (h F O cpos σ s (fun vs σ₁ => match vs with
    | [v] => ∃ l items, v = .ref l ∧ σ₁.lst l = some items ∧ ∀ I u, I ≠ u → σ₁.hp I = none → σ₁.hp u = none → Q (.ref u) ⟨σ₁.loc, upd (upd σ₁.hp I (.iter l 0)) u (.next I)⟩
    | _ => False) E R hp) ?_ fun _ _ x => x) (he _) rfl
  rintro us s₁ ⟨vs, σ₁, hr, R₁, h₁⟩
  match vs, hr, h₁ with
  | [_], hr, ⟨l, items, e1, hl, hq⟩ =>
    obtain ⟨w, rfl, hw⟩ := hr.one
    subst e1
    subst hw
    obtain ⟨xs, e', r, hz⟩ := R₁.isList hl
    refine call_function_entry (by decide +kernel) (by decide +kernel) kdk_entry_iter (kdk_args_iter _) ?_
    unfold Builtin.«iter»
    refine wpAny_bind (m := someArgs "iter" 1 2 _) (wpAny_of_eq (a := [Value.ref l]) (by first | rfl | kernel_rfl!) ?_)
    show wpAny _ _ (pyIter (.ref l) >>= _) _ _ _
    refine wpAny_bind (wpAny_pyIter_list e' ?_)
    refine wpAny_pure ⟨_, rfl, ?_⟩
    refine wpAny_bind (wpAny_standAt (wpAny_bind (wpAny_holding (attr_next (l := l) (Heap.get?_push_size _ rfl) ?_))))
    refine wpAny_bind (wpAny_letTemporaryGo (wpAny_pure ?_))
    have f1 := R₁.fresh (heap_size_none s₁.heap)
    have R₂ := R₁.push { cls := .type "list_iterator", data := .fields #[.ref l, .int 0 0] } (.iter l 0) rfl ⟨_, Heap.get?_push_size _ rfl, rfl, rfl⟩
    have f2 := R₂.fresh (heap_size_none _)
    have R₃ := R₂.push { cls := .type "method-wrapper", data := .fields #[.builtin "list_iterator.__next__", .ref s₁.heap.objs.size] } (.next s₁.heap.objs.size) rfl (Heap.get?_push_size _ rfl)
    have ne : s₁.heap.objs.size ≠ (s₁.heap.push { cls := .type "list_iterator", data := .fields #[.ref l, .int 0 0] }).objs.size := by rw [Heap.size_push]; exact Nat.ne_of_lt (Nat.lt_succ_self _)
    refine ⟨.ref _, _, rfl, R₃.toks, hq _ _ ne f1.2 ?_⟩
    have := f2.2
    simpa [upd, Ne.symm ne] using this

noncomputable def opNextCall : AV → EP
  | .ref u => fun Q E σ => ∃ I l i items, σ.hp u = some (.next I) ∧ σ.hp I = some (.iter l i) ∧ σ.lst l = some items ∧ (match items[i]? with
    | some v => Q v ⟨σ.loc, upd σ.hp I (.iter l (i + 1))⟩
    | none => E .stop ⟨σ.loc, fun b => if b = I then none else σ.hp b⟩)
  | _ => fun _ _ _ => False
theorem check_lin {a : Addr} : checkBoundCall "list_iterator.__next__" ⟨[.ref a], []⟩ = pure () := by first | kernel_rfl | rfl
theorem op_nextCall (O : FOk P D F) (hc : D.calm = true) (f : AV) (fu : Value) (hf : f.rep fu) : OpSim P D F (call fu []) (opNextCall f) := by
  intro σ s Q E R h
  cases f <;> try exact h.elim
  rename_i u
  subst hf
  obtain ⟨I, l, i, items, hu, hI, hl, hm⟩ := h
  obtain ⟨xs, e', r, hz⟩ := R.isList hl
  have hU : s.heap.get? u = some { cls := .type "method-wrapper", data := .fields #[.builtin "list_iterator.__next__", .ref I] } := (R.hp u _ hu).1
  have hit : s.heap.IsListIter I l i := (R.hp I _ hI).1
  have frI := R.free hI rfl
  refine wpAny_call (codeAny_of_tree ?_)
  show wpAny _ F.A.in1 (callAny (.ref u) ⟨[], []⟩) _ _ s
  simp only [callAny]
  refine wpAny_bind (wpAny_load hU ?_)
  simp only [show (Value.type "method-wrapper" == Value.type "method" || Value.type "method-wrapper" == Value.type "builtin_function_or_method" || Value.type "method-wrapper" == Value.type "method-wrapper") = true by decide, if_true]
  show wpAny _ _ (if (Value.type "method-wrapper" != Value.type "method") = true then _ else _) _ _ s
  rw [if_pos (by decide)]
  refine wpAny_bind (wpAny_of_eq (a := ()) check_lin ?_)
  refine wpAny_bind (wpAny_pure (wpAny_pure ?_))
  refine ⟨Code.quiet_builtin _ (by decide +kernel), codeAny_builtin entry_listiter_next ?_⟩
  obtain ⟨o, ho, hcl, hd⟩ := id hit
  obtain ⟨ol, hol, _, nl, hdl⟩ := e'
  show wpAny _ _ (field (.ref I) 0 >>= _) _ _ s
  refine wpAny_bind (wpAny_field ho hd (x := .ref l) rfl ?_)
  show wpAny _ _ (if (Value.ref l == Value.none) = true then _ else _) _ _ s
  rw [if_neg (show ¬ ((Value.ref l == Value.none) = true) from Bool.false_ne_true)]
  show wpAny _ _ (field (.ref I) 1 >>= _) _ _ s
  refine wpAny_bind (wpAny_field ho hd (x := .int i 0) rfl ?_)
  show wpAny _ _ (seqItems? (.ref l) >>= _) _ _ s
  refine wpAny_bind (wpAny_seqItems hol hdl ?_)
  cases hv : items[i]? with
  | some v =>
    rw [hv] at hm
    obtain ⟨x, hx, hrep⟩ := r.get i hv
    have hx' : xs.toArray[i]? = some x := by simpa using hx
    simp only [Int.toNat_natCast, hx']
    refine wpAny_bind (wpAny_setField ho hd (by simp) (wpAny_pure ?_))
    refine ⟨v, _, hrep, R.set (o' := .iter l (i + 1)) (t := s.toks) hI rfl (Heap.SameBut.update ..) rfl ?_, hm⟩
    exact ⟨_, Heap.get?_update_self _ ho (Obj.isFreed_of_fields (Obj.data_mapFields hd _)), (Obj.cls_mapFields ..).trans hcl, by
      rw [Obj.data_mapFields hd]; simp [rawInt]⟩
  | none =>
    rw [hv] at hm
    have hx' : xs.toArray[i]? = none := by
      have hlen := r.length
      rw [List.getElem?_eq_none_iff] at hv
      simp; (first | lia | omega)
    simp only [Int.toNat_natCast, hx']
    refine wpAny_bind (wpAny_rule (wpAny_bind (wpAny_setField ho hd (by simp) ?_)))
    show wpAny _ _ (newExc (.type "StopIteration") [] >>= _) _ _ _
    refine wpAny_bind ?_
    simp only [newExc, newTuple]
    refine wpAny_bind (wpAny_newObj_type ?_ (by size_fits))
    refine wpAny_bind (m := firstArgMember _ _) (wpAny_of_eq (a := Value.none) (by first | rfl | (simp only [firstArgMember]; rfl)) ?_)
    refine wpAny_newObj_type ?_ (by size_fits)
    simp only [raiseNew]
    refine wpAny_bind (wpAny_handled ?_)
    have hh : ∀ c, (F.A.under c).handled = F.A.handled := fun c => by cases c <;> rfl
    rw [hh, O.hh hc]
    refine wpAny_throw ?_
    have R₁ : Rel P D F ⟨σ.loc, fun b => if b = I then none else σ.hp b⟩ { s with heap := s.heap.update I (Obj.mapFields fun x => x.setIfInBounds 0 Value.none) } :=
      R.change (t := s.toks) (fun b => b = I) (fun b e => e ▸ frI) (fun b ob ne e => (Heap.get?_update_other _ _ (Ne.symm ne)).trans e) fun b ob e => by
        by_cases hb : b = I
        · simp [hb] at e
        · exact .inl ⟨by simpa [hb] using e, hb⟩
    have R₂ := R₁.pushU { cls := .type "tuple", data := .seq #[] }
    have fr := R₂.fresh (heap_size_none _)
    exact ⟨.stop, _, ⟨R₂.pushU _, _, _, _, _, rfl, fr, Heap.get?_push_size _ rfl, rfl, rfl, rfl, .inl rfl⟩, hm⟩
end
end
section
section
variable {P : PC} {D : FD} {F : FX} {σ : St} {s : Shared}

noncomputable def pNextCall (p : EP) : EP := fun Q E σ => p (fun v σ₁ => opNextCall v Q E σ₁) E σ
theorem sim_nextCall {o i : Expr} {sp pos : Pos} {p : EP} (h : SimE P D (.Subscript o i sp) p) (hc : D.calm = true := by rfl) : SimE P D (.Call (.Subscript o i sp) [] [] pos) (pNextCall p) := by
  intro F O σ s Q E R hp
  have e : eval (.Call (.Subscript o i sp) [] [] pos) F.env = (do callWith pos (← eval (.Subscript o i sp) F.env) [] (backTo pos (starEach [] F.env)) (backToKw pos (keywordEach [] F.env))) := rfl
  rw [e]
  refine wpAny_bind (wpAny_mono (h F O σ s _ E R hp) ?_ fun _ _ x => x)
  rintro fu s₁ ⟨v, σ₁, hv, R₁, h₁⟩
  cases v <;> try exact h₁.elim
  rename_i u
  obtain ⟨I, l, k, items, hu, hrest⟩ := id h₁
  have hU : s₁.heap.get? u = some { cls := .type "method-wrapper", data := .fields #[.builtin "list_iterator.__next__", .ref I] } := (R₁.hp u _ hu).1
  have hcall := op_nextCall O hc (.ref u) fu hv σ₁ s₁ Q E R₁ h₁
  have hv' : fu = .ref u := hv
  subst hv'
  unfold callWith
  refine wpAny_bind (wpAny_holding (wpAny_pure ?_))
  refine wpAny_bind (wpAny_standAt ?_)
  refine wpAny_bind (m := keeperOf (.ref u)) ?_
  unfold keeperOf
  refine wpAny_bind (wpAny_load hU ?_)
  simp only [show (Value.type "method-wrapper" != Value.type "method") = true by decide, show (Value.type "method-wrapper" == Value.type "builtin_function_or_method" || Value.type "method-wrapper" == Value.type "method-wrapper") = true by decide, if_true]
  refine wpAny_pure ?_
  exact wpAny_bind (wpAny_mono hcall (fun r s₂ hr => wpAny_bind (wpAny_holding (wpAny_point (wpAny_pure hr)))) fun _ _ x => x)
end
end
section
noncomputable def uncalm (D : FD) : FD := { D with calm := false }
section
variable {P : PC} {D : FD} {F : FX} {σ : St} {s : Shared}

noncomputable def sTry (body orelse handler : SP) (ex₀ : Ex) : SP := fun Q E σ => body (fun fl σ₁ => match fl with
  | .next => orelse Q E σ₁
  | f => Q f σ₁) (fun ex σ₁ => ex = ex₀ ∧ handler Q noX σ₁) σ
noncomputable def ClassOf (P : PC) (D : FD) (t : Expr) (c : Value) : Prop := ∀ F, FOk P D F → ∀ σ s (Q : Value → Shared → Prop) E, Rel P D F σ s → Q c s → wpAny (model P.prog P.w) F.A (eval t F.env) Q E s
theorem classOf_bi {x : Str} {pos : Pos} {v : Value} (hx : x ∈ D.globs) (hf : freeName P x) (hv : bootBuiltins x = some v) (hd : (x == ("__debug__" : Str)) = false := by decide) : ClassOf P D (.Name x pos) v := fun _ O _ _ _ _ R h => glob_bi O R hx hf hv h hd

noncomputable def markF (F : FX) (e : Value) : FX := { F with A := F.A.mark (some e) }
theorem FOk.marked (O : FOk P D F) (e : Value) : FOk P (uncalm D) (markF F e) where
  fn := O.fn
  locals := O.locals
  globals := O.globals
  builtins := O.builtins
  loc := O.loc
  cell := O.cell
  cellInj := O.cellInj
  cap := O.cap
  glob := O.glob
  nd := O.nd
  X := O.X
  T := O.T
  kbg := O.kbg
  frames := O.frames
  frs := O.frs
  outsOk := O.outsOk
  Lg := O.Lg
  above := O.above
  depth := O.depth
  units := O.units
  hh := fun h => by cases h
  fnOk := O.fnOk
theorem Rel.marked (R : Rel P D F σ s) (e : Value) : Rel P (uncalm D) (markF F e) σ s := ⟨R.ns, R.cell, R.cap, R.keep, R.outs, R.hp, R.gens, R.os⟩
theorem Rel.unmarked {e : Value} (R : Rel P (uncalm D) (markF F e) σ s) : Rel P D F σ s := ⟨R.ns, R.cell, R.cap, R.keep, R.outs, R.hp, R.gens, R.os⟩

theorem sim_try {body orelse suite : List Stmt} {b₀ : Stmt} {t : Expr} {pos hpos : Pos} {pb po ph : SP} {ex₀ : Ex} {c : Value} (hb : SimSs P D body pb) (ho : SimSs P D orelse po) (hs : SimSs P (uncalm D) (b₀ :: suite) ph)
    (hT : ClassOf P (uncalm D) t c) (hx : exmOne P.K (exCls P ex₀) c = some true) (hfn : D.fn = true := by rfl) : SimS P D (.Try body [.ExceptHandler (some t) none (b₀ :: suite) hpos] orelse [] pos) (sTry pb po ph ex₀) := by
  intro F O σ s Q E R hp
  refine wpAny_Try_except (wpAny_mono (hb F O σ s _ _ R hp) ?_ ?_)
  · rintro f s₁ ⟨fl, σ₁, hf, R₁, h₁⟩
    cases fl with
    | next => subst hf; exact ho F O σ₁ s₁ Q E R₁ h₁
    | cont => subst hf; exact ⟨.cont, σ₁, rfl, R₁, h₁⟩
    | brk => subst hf; exact ⟨.brk, σ₁, rfl, R₁, h₁⟩
    | ret v => obtain ⟨w, rfl, hw⟩ := hf; exact ⟨.ret v, σ₁, ⟨w, rfl, hw⟩, R₁, h₁⟩
  · rintro e s₁ ⟨ex, σ₁, x, rfl, h₁⟩
    refine note_sim O (O.fnOk hfn) rfl x fun h' x' => ?_
    refine flight_sim O x' fun h'' x'' => ?_
    obtain ⟨R₂, a, oe, vs, a0, T, oT, ts, rfl, ua, ha, hcls, hd, h0, hv1, hTa, uT, hT', hdT, h3⟩ := id x''
    refine wpAny_handleBy_cons (codeAny_handlers_test ?_) (by intro q; cases q)
    refine hT (markF F (.ref a)) (O.marked _) σ₁ _ _ _ (R₂.marked _) ?_
    have hk : ∀ b o, F.kb.get? b = some o → h''.get? b = some o := fun b o e => R₂.keep b o (O.kbg b o e)
    have LT : Looks (model P.prog P.w) h'' (typeOf (.ref a)) (exCls P ex) := hcls ▸ (Looks.ld ha).andThen .now
    refine (exm_one (O.X.keeps hk) LT hx).here ?_
    refine codeAny_handlers_suite ?_
    refine flight_sim O x'' fun h₃ x₃ => ?_
    refine wpAny_mono (hs (markF F (.ref a)) (O.marked _) σ₁ _ Q noX (x₃.rel.marked _) h₁) ?_ fun _ _ z => (noX_elim z).elim
    rintro f s₄ ⟨fl, σ₄, hf, R₄, h₄⟩
    exact ⟨fl, σ₄, hf, R₄.unmarked, h₄⟩
end
end
section
section
variable {P : PC} {D : FD} {F : FX} {σ : St} {s : Shared}

noncomputable def SimV (P : PC) (D : FD) (e : Expr) (p : SP) : Prop := ∀ F, FOk P D F → ∀ σ s Q E, Rel P D F σ s → p Q E σ → wpAny (model P.prog P.w) F.A (eval e F.env) (fun _ s' => ∃ σ', Rel P D F σ' s' ∧ Q .next σ') (RX P D F E) s
noncomputable def SimVs (P : PC) (D : FD) (es : List Expr) (p : SP) : Prop := ∀ F, FOk P D F → ∀ pos σ s Q E, Rel P D F σ s → p Q E σ → wpAny (model P.prog P.w) F.A (spliced (backTo pos (starEach es F.env))) (fun us s' => us.length = es.length ∧ ∃ σ', Rel P D F σ' s' ∧ Q .next σ') (RX P D F E) s
noncomputable def vNil : SP := fun Q _ σ => Q .next σ
noncomputable def vCons (p q : SP) : SP := fun Q E σ => p (fun _ σ' => q Q E σ') E σ
theorem sim_vnil : SimVs P D [] vNil := fun F _ pos σ s Q E R h => wpAny_items_nil (⟨rfl, σ, R, h⟩ : (([] : List Value).length = ([] : List Expr).length) ∧ ∃ σ', Rel P D F σ' s ∧ Q .next σ')
theorem sim_vcons {e : Expr} {es : List Expr} {p q : SP} (h : SimV P D e p) (h' : SimVs P D es q) (he : ∀ env, starEach (e :: es) env = (false, eval e env) :: starEach es env := by intro _; rfl) : SimVs P D (e :: es) (vCons p q) := by
  intro F O pos σ s Q E R hp
  refine wpAny_items_cons (wpAny_mono (h F O σ s _ E R hp) ?_ fun _ _ x => x) (he _)
  rintro u s₁ ⟨σ₁, R₁, h₁⟩
  refine wpAny_mono (h' F O pos σ₁ s₁ _ E R₁ h₁) ?_ fun _ _ x => x
  rintro us s₂ ⟨hl, σ₂, R₂, h₂⟩
  exact ⟨by simp [hl], σ₂, R₂, h₂⟩
noncomputable def vOf (p : EP) : SP := fun Q E σ => p (fun _ σ' => Q .next σ') E σ
theorem sim_vof {e : Expr} {p : EP} (h : SimE P D e p) : SimV P D e (vOf p) := by
  intro F O σ s Q E R hp
  refine wpAny_mono (h F O σ s _ E R hp) ?_ fun _ _ x => x
  rintro u s₁ ⟨v, σ₁, _, R₁, h₁⟩
  exact ⟨σ₁, R₁, h₁⟩
theorem sim_vfstr {x : Str} {k : Nat} {pos pos' : Pos} : SimV P D (.JoinedStr [.Constant (.str x) k pos] pos') vNil := fun F O σ s Q E R hp => wpAny_JoinedStr_one (Constant_str ⟨σ, R.toks, hp⟩)

noncomputable def sRaise (ex : Ex) (p : SP) : SP := fun _ E σ => p (fun _ σ' => E ex σ') E σ
theorem x_made {ex : Ex} {σ : St} {s : Shared} {h' : Heap} {e : Addr} {us : List Value} (R : Rel P D F σ s) (m : Heap.MadeExcOf s.heap h' e (exCls P ex) us) : XAt P D F ex σ (.ref e) { s with heap := h' } := by
  obtain ⟨t, h1, h2, h3⟩ := m.there
  exact ⟨R.ext (t := s.toks) m.keeps, e, _, _, _, rfl, R.fresh m.new, h1, rfl, rfl, rfl, .inl rfl⟩
theorem sim_raiseOwn {x : Str} {np cpos pos : Pos} {e₀ : Expr} {rest : List Expr} {p : SP} {B Bn newId nid initId inN : String} {bm bmN : List Value} (hx : x ∈ D.globs) (e : nsIn P.K mainGlobals x = some (some (.ref P.cE))) (q : excIn P.K P.cE bm newId = true)
    (Fn : ExcBaseFacts Bn newId inN bmN) (hBn : bm.contains (.type Bn) = true) (FB : ExcBaseFacts B nid initId bm) (ha : SimVs P D (e₀ :: rest) p) (hlen : (e₀ :: rest).length ≤ 100 := by decide)
    (he : ∀ env, starEach (e₀ :: rest) env = (false, eval e₀ env) :: starEach rest env := by intro _; rfl) (hplain : ∀ env, (backTo cpos (starEach rest env)).any (·.1) = false := by intro _; rfl) (hc : D.calm = true := by rfl) (hd : (x == ("__debug__" : Str)) = false := by decide) :
    SimS P D (.Raise (some (.Call (.Name x np) (e₀ :: rest) [] cpos)) none pos) (sRaise .cycle p) := by
  intro F O σ s Q E R hp
  have hO := own_of_in O.X (topRead_of O.T) e q
  obtain ⟨tl, N, nm, qn, bs, hdct, sn, sub, ab, col, dd, k0, k1, k2, k3, k5, mN, hC, hN, hni, T⟩ := hO.obj
  refine wpAny_Raise_call_subU (C := P.cE) (nm := nm) (q := qn) (N := N) (bs := bs) (bm := tl) (hdct := hdct) (sn := sn) (sub := sub) (ab := ab) (col := col) (dd := dd) (k0 := k0) (k1 := k1) (k2 := k2) (k3 := k3) (k5 := k5)
    Fn hBn FB (mN := mN) (T.hasType FB.hasBase) (O.hh hc) (by rw [he]; show (false || (backTo cpos (starEach rest F.env)).any (·.1)) = false; rw [hplain]; rfl) hni (glob_fn O R hx e ⟨rfl, ?_⟩ hd)
  have h := ha F O cpos σ s _ E R hp
  rw [he] at h ⊢
  refine Calls.evalArgs_plain (wpAny_mono h ?_ fun _ _ y => y)
  rintro us s₂ ⟨hl, σ₂, R₂, h₂⟩
  have hk : ∀ b o, F.kb.get? b = some o → s₂.heap.get? b = some o := fun b o e => R₂.keep b o (O.kbg b o e)
  exact ⟨rfl, by rw [sizeLine_eq, hl]; (first | lia | omega), hk _ _ hC, hN.keeps hk, T.keeps hk, fun h' e' hm => ⟨.cycle, σ₂, x_made R₂ hm, h₂⟩⟩
end
end
section
section
variable {P : PC} {D : FD} {F : FX} {σ : St} {s : Shared}

noncomputable def sPair (q : LP) (is : List Nat) : SP := fun Q E σ => q (fun vs σ' => vs.length = is.length ∧ ∀ a, σ'.hp a = none → Q .next ⟨setvs σ'.loc is vs, upd σ'.hp a (.tup vs)⟩) E σ
end
end
section
section
variable {P : PC} {D : FD} {F : FX} {σ : St} {s : Shared}

noncomputable def pListRange (p : LP) : EP := fun Q E σ => p (fun vs σ₁ => ∃ ns, rangeOf vs = some ns ∧ ns.length ≤ 1000000 ∧ ∀ a, σ₁.hp a = none → Q (.ref a) ⟨σ₁.loc, upd σ₁.hp a (.list (intsA ns))⟩) E σ
end
end
section
noncomputable def fdAt? (K : Frag) (f : Addr) : Option FuncData := match K.lookup f with
  | some ⟨_, _, .func fd, _⟩ => some fd
  | _ => none
noncomputable def bodyOf (fd : FuncData) : List Stmt := match fd.body with
  | .stmts b => b
  | _ => []
noncomputable def isStmts (fd : FuncData) : Bool := match fd.body with
  | .stmts _ => true
  | _ => false
noncomputable def fnOkB (K : Frag) (fd : FuncData) (D : FD) : Bool :=
  isStmts fd && fd.closure.isEmpty && fd.globals == mainGlobals && fd.builtins == builtinsNs && codeIn K fd.code fd.qualname && decide (fd.scope.kind = .function) && !fd.scope.isCoroutine && !fd.scope.isGenerator &&
  (D.vars.all fun x => match x.2 with
    | .loc => fd.scope.names.lookup x.1 == some .local
    | .cell => fd.scope.names.lookup x.1 == some .cell
    | .cap => false) && (D.globs.all fun x => fd.scope.names.lookup x == some .globalImplicit) && decide ((D.vars.map (·.1)).Nodup) && D.fn
theorem FnOk.of {P : PC} {f : Addr} {fd : FuncData} {D : FD} (hl : fdAt? P.K f = some fd) (h : fnOkB P.K fd D = true) : FnOk P f fd (bodyOf fd) D := by
  unfold fnOkB at h
  simp only [Bool.and_eq_true, List.all_eq_true, decide_eq_true_eq, Bool.not_eq_true'] at h
  obtain ⟨⟨⟨⟨⟨⟨⟨⟨⟨⟨⟨h1, h2⟩, h3⟩, h4⟩, h5⟩, h6⟩, h7⟩, h8⟩, h9⟩, h10⟩, h11⟩, h12⟩ := h
  have hb : fd.body = .stmts (bodyOf fd) := by
    unfold isStmts at h1
    unfold bodyOf
    split at h1
    · rename_i b e; rw [e]
    · cases h1
  refine ⟨hb, by simpa using h2, by simpa using h3, by simpa using h4, ?_, h5, h6, h7, h8, fun x hx => ?_, fun x hx => ?_, fun x hx => ?_, fun x hx => by simpa using h10 x hx, h11, h12⟩
  · unfold fdAt? at hl
    split at hl
    · rename_i oc od fd' sl e; cases hl; exact ⟨oc, od, sl, e⟩
    · cases hl
  · have := h9 _ hx; simpa using this
  · have := h9 _ hx; simpa using this
  · have := h9 _ hx; simp at this
theorem fsim_of {P : PC} {f : Addr} {fd : FuncData} {D : FD} {n : Nat} {pb : SP} (hl : fdAt? P.K f = some fd) (h : fnOkB P.K fd D = true) (hS : SimSs P D (bodyOf fd) pb) (hn : n ≤ D.vars.length)
    (hb : ∀ (us : List Value) (s : Shared), us.length = n → P.K.In s.heap → BindsTo s fd ⟨us, []⟩ ((D.vars.map (·.1)).zip us)) : FSim P f D.depth (fpOf n pb) := fsim_plain (FnOk.of hl h) hS hn hb
end
section
noncomputable def freeNames : List Str := ["min", "max", "len", "sum", "abs", "sorted", "tuple", "list", "set", "range", "iter", "StopIteration", "ValueError", "bool"]
section
variable {P : PC} {D : FD} {F : FX} {σ : St} {s : Shared}
noncomputable def pDict0 : EP := fun Q _ σ => ∀ a ep, σ.hp a = none → Q (.ref a) ⟨σ.loc, upd σ.hp a (.dict [] ep)⟩
theorem sim_dict0 {pos : Pos} : SimE P D (.Dict [] [] pos) pDict0 := by
  intro F O σ s Q E R hp
  rw [eval_Dict_empty]
  refine wpAny_bind (wpAny_standAt ?_)
  refine wpAny_newObj_type ?_
  have fr := R.fresh (heap_size_none s.heap)
  have hlo : (s.heap.objs.size == sysModules) = false := by
    obtain ⟨o, _, _, e, _⟩ := O.T.g
    have h1 := Heap.lt_size e
    obtain ⟨m, ⟨oL, _, _, eL, _⟩, _⟩ := R.ns
    have h2 := Heap.lt_size eL
    have h3 := O.above
    have h4 : 0 < F.kb.objs.size := Nat.lt_of_le_of_lt (Nat.zero_le _) h1
    have h5 : 1 < s.heap.objs.size := Nat.lt_of_le_of_lt (Nat.le_trans h4 h3) h2
    have : s.heap.objs.size ≠ sysModules := fun q => absurd h5 (by rw [q]; exact Nat.lt_irrefl 1)
    simpa using this
  refine ⟨.ref _, _, rfl, R.push _ (.dict [] 0) rfl ⟨[], ⟨_, #[], Heap.get?_push_size _ rfl, ⟨rfl, rfl, rfl⟩, rfl, ?_, ?_, ?_⟩, ⟨rfl, trivial⟩, hlo, Nat.zero_le _⟩, hp _ 0 fr.2⟩
  · first | (intro e he; simp at he) | exact KeysOf.empty | trivial | simp [KeysOf]
  · first | exact .nil | trivial | rfl
  · simp
end
end
section
theorem bind_tuple {prog : Program} {w : World} {A : Around} {E : Value → Shared → Prop} {s : Shared} {Q : List (Str × Value) → Shared → Prop} {rest : List Value} {f : Value → List (Str × Value)} {m : Sem (List (Str × Value))} (e : m = (newTuple rest >>= fun t => pure (f t))) (hl : rest.length ≤ 1000000)
    (h : Q (f (.ref s.heap.objs.size)) { s with heap := s.heap.push { cls := .type "tuple", data := .seq rest.toArray } }) : wpAny (model prog w) A m Q E s := by
  rw [e]
  unfold newTuple
  exact wpAny_bind (wpAny_newObj_type (wpAny_pure h) (by show rest.toArray.size ≤ sizeLine; rw [List.size_toArray, sizeLine_eq]; (first | lia | omega)))
theorem fsim_ofS {P : PC} {f : Addr} {fd : FuncData} {D : FD} {k : Nat} {pb : SP} (hl : fdAt? P.K f = some fd) (h : fnOkB P.K fd D = true) (hS : SimSs P D (bodyOf fd) pb) (hn : k + 1 ≤ D.vars.length)
    (hb : ∀ (us : List Value) (s : Shared) (A : Around) (Q : List (Str × Value) → Shared → Prop) (E : Value → Shared → Prop), k ≤ us.length → us.length ≤ 1000000 → P.K.In s.heap →
      Q ((D.vars.map (·.1)).zip (us.take k ++ [.ref s.heap.objs.size])) { s with heap := s.heap.push { cls := .type "tuple", data := .seq (us.drop k).toArray } } → wpAny (model P.prog P.w) A (bindArgs fd ⟨us, []⟩) Q E s) : FSim P f D.depth (fpStar k pb) := fsim_star (FnOk.of hl h) hS hn hb
noncomputable def fpDflt (n : Nat) (pb : SP) : FP := fun vs Q E hp => vs.length = n ∧ pb (fun fl σ => Q (retV fl) σ.hp) (fun ex σ => E ex σ.hp) ⟨fun i => (vs ++ [.none])[i]?, hp⟩
theorem fsim_dflt {P : PC} {f : Addr} {fd : FuncData} {D : FD} {n : Nat} {pb : SP} (hl : fdAt? P.K f = some fd) (h : fnOkB P.K fd D = true) (hS : SimSs P D (bodyOf fd) pb) (hn : n + 1 ≤ D.vars.length)
    (hb : ∀ (us : List Value) (s : Shared), us.length = n → P.K.In s.heap → BindsTo s fd ⟨us, []⟩ ((D.vars.map (·.1)).zip (us ++ [.none]))) : FSim P f D.depth (fpDflt n pb) := by
  have hF := FnOk.of hl h
  rintro D' F' O' A hA hd hu hh hdep σ s vs us Q E R hr ⟨hl, hp⟩
  obtain ⟨oc, od, sl, hlk⟩ := hF.look
  have X := O'.kin R
  have hrl : A.depth < recursionLimit := by have := O'.depth; unfold recursionLimit; (first | lia | omega)
  refine codeAny_call_function hrl (X _ _ hlk) rfl hF.co hF.gen hF.body (codeRec_of X hF.code) ?_
  refine hb us s (by rw [← hr.length]; exact hl) X _ _ _ _ ?_
  exact enter_sim hF hS O' hA hd hu (fun _ => hh) hdep (hr.append (l' := [.none]) (vs' := [.none]) ⟨rfl, trivial⟩) (by rw [List.length_append]; simp; (first | lia | omega)) R hp
end
section
theorem entry_sim {P : PC} {f : Addr} {fd : FuncData} {D : FD} {pb : SP} {l : Addr} {vs : List Value} {ns : List Int} {s : Shared} (hl : fdAt? P.K f = some fd) (h : fnOkB P.K fd D = true) (hS : SimSs P D (bodyOf fd) pb) (hn : 1 ≤ D.vars.length)
    (hb : BindsTo s fd ⟨[.ref l], []⟩ ((D.vars.map (·.1)).zip [.ref l])) (X : P.K.In s.heap) (T : Top P.p P.loose P.mean P.mg P.mb s.heap) (hg : s.gens = #[]) (hL : s.heap.IsList l vs.toArray) (hI : IntsAre vs ns) (hz : ns.length ≤ 1000000) (hd : D.depth ≤ 20) {Q : AV → Prop}
    (hp : pb (fun fl _ => Q (retV fl)) noX ⟨fun i => [AV.ref l][i]?, fun b => if b = l then some (.flist (intsA ns)) else none⟩) :
    codeAny (model P.prog P.w) callerA (.call (.ref f) ⟨[.ref l], []⟩) (fun r s' => ∃ v av, r = .ok (.ret v) ∧ av.rep v ∧ Q av ∧ (∀ b o, s.heap.get? b = some o → s'.heap.get? b = some o) ∧ s'.gens = #[] ∧ s'.os = s.os) s := by
  have hF := FnOk.of hl h
  obtain ⟨oc, od, sl, hlk⟩ := hF.look
  have hm0 : claimMargin = 300 := rfl
  have hrl : callerA.depth < recursionLimit := by decide +kernel
  refine codeAny_call_function hrl (X _ _ hlk) rfl hF.co hF.gen hF.body (codeRec_of X hF.code) ?_
  refine hb _ _ _ _ ?_
  rw [hF.clo]
  have hkeys := zip_keys (us := [Value.ref l]) hF.nd
  have kinds : ∀ x ∈ D.vars.map (·.1), fd.scope.names.lookup x = some .local ∨ fd.scope.names.lookup x = some .cell := fun x hx => by
    obtain ⟨⟨y, k⟩, hy, rfl⟩ := List.mem_map.mp hx
    cases k with
    | loc => exact .inl (hF.loc y hy)
    | cell => exact .inr (hF.cell y hy)
    | cap => exact absurd hy (hF.cap y)
  refine wpAny_newFunctionEnv_cells hF.kind (fun x hx => ?_) ?_
  · rcases kinds x.1 (hkeys.2 _ (List.mem_map_of_mem hx)) with h | h
    · exact .inl h
    · exact .inr ⟨h, cells_some _ _ _ h⟩
  rintro env rfl s' ⟨⟨⟨h', tk, rfl⟩, hns, hk, hfr⟩, hcell, hap, hab⟩
  refine ⟨T.nolimit.keeps hk, codeAny_func ?_⟩
  have hr : Reps [AV.ref l] [Value.ref l] := ⟨rfl, trivial⟩
  have gNone : ∀ b, s.heap.objs.size ≤ b → s.heap.get? b = none := fun b hb => by
    cases q : s.heap.get? b with
    | none => rfl
    | some o => exact absurd (Heap.lt_size q) (Nat.not_lt.mpr hb)
  have cellAt : ∀ x, (x, VK.cell) ∈ D.vars → ∃ c, (cellsFrom (s.heap.objs.size + 1) fd.scope.names []).lookup x = some c ∧ s.heap.objs.size < c := fun x hx => by
    have := cells_some (x := x) fd.scope.names (s.heap.objs.size + 1) [] (hF.cell x hx)
    obtain ⟨c, hc⟩ := Option.isSome_iff_exists.mp this
    exact ⟨c, hc, hab x c (mem_of_lookup hc)⟩
  let env := newEnv fd.scope s.heap.objs.size fd.globals (cellsFrom (s.heap.objs.size + 1) fd.scope.names []) (fd.qualname ++ ".<locals>.") (some f) fd.code none fd.builtins
  let F : FX := { A := callerA.deeper env, kb := s.heap, fenv := env, outer := [], outs := [], g := s.heap, L := s.heap.objs.size, env := env, os := s.os }
  have O : FOk P D F := {
    fn := hF.kind
    locals := rfl
    globals := hF.glob
    builtins := hF.blt
    loc := hF.loc
    cell := fun x hx => by
      obtain ⟨c, hc, hlt⟩ := cellAt x hx
      exact ⟨hF.cell x hx, c, hc, Nat.ne_of_gt hlt, gNone c (Nat.le_of_lt hlt), by simp [F]⟩
    cellInj := fun x y c hx hy hcx hcy => pairwise_inj hap (mem_of_lookup hcx) (mem_of_lookup hcy)
    cap := fun x hx => absurd hx (hF.cap x)
    glob := hF.globs
    nd := hF.nd
    X := X
    T := T
    kbg := fun b o e => e
    frames := Around.frames_deeper rfl
    frs := fun e he => by
      rcases List.mem_cons.mp he with rfl | he
      · exact ⟨by show fd.scope.kind ≠ .module; rw [hF.kind]; decide, s.heap.objs.size, rfl, .inl rfl⟩
      · cases he
    outsOk := fun q hq => by cases hq
    Lg := gNone _ (Nat.le_refl _)
    above := Nat.le_refl _
    depth := by show 1 + claimMargin + 1 + 20 * D.depth ≤ 900; (first | lia | omega)
    units := by show 4 + 3 + 100 * D.depth ≤ 9000; (first | lia | omega)
    hh := fun _ => rfl
    fnOk := fun _ => ⟨rfl, rfl⟩ }
  have R : Rel P D F ⟨fun i => [AV.ref l][i]?, fun b => if b = l then some (.flist (intsA ns)) else none⟩ { s with heap := h', toks := tk } := {
    ns := ⟨_, hns, fun i x v hi hv => by
      obtain ⟨u, hu', hrep⟩ := hr.get i hv
      exact ⟨u, bindL_reverse (hF.loc x (List.mem_of_getElem? hi)) hkeys.1 (zip_mem i (by rw [List.getElem?_map, hi]; rfl) hu') _, hrep⟩⟩
    cell := fun i x hi c hc => by
      have hlt := hab x c (mem_of_lookup hc)
      have hne : c ≠ l := fun e => by
        obtain ⟨o, ho, _⟩ := hL
        have := Heap.lt_size ho
        rw [← e] at this
        exact absurd this (Nat.not_lt.mpr (Nat.le_of_lt hlt))
      refine ⟨by simp [hne], _, hcell x c hc, fun v hv => ?_⟩
      obtain ⟨u, hu', hrep⟩ := hr.get i hv
      exact ⟨u, bindC_reverse (by show fd.scope.names.lookup x ≠ _; rw [hF.cell x (List.mem_of_getElem? hi)]; decide) hkeys.1 (zip_mem i (by rw [List.getElem?_map, hi]; rfl) hu') _, hrep⟩
    cap := fun i x v hi _ => absurd (List.mem_of_getElem? hi) (hF.cap x)
    keep := fun b o e => hk b o e
    outs := fun q hq => by cases hq
    hp := fun a o e => by
      by_cases ha : a = l
      · subst ha
        have : o = .flist (intsA ns) := by simpa using e.symm
        subst this
        obtain ⟨ol, hol, r⟩ := id hL
        exact ⟨⟨vs, ⟨ol, hk _ _ hol, r⟩, intsA_of hI, by rw [List.length_map]; exact hz⟩, fun _ => by show (s.heap.get? a).isSome = true; rw [hol]; rfl, fun hf => by cases hf⟩
      · simp [ha] at e
    gens := hg
    os := rfl }
  refine wpAny_mono (hS F O _ _ _ _ R hp) ?_ fun e s₂ z => (noX_elim z).elim
  rintro fl s₂ ⟨fa, σ₂, hfa, R₂, h₂⟩
  refine ⟨_, retV fa, rfl, ?_, h₂, R₂.keep, R₂.gens, R₂.os⟩
  cases fa with
  | next => subst hfa; rfl
  | brk => subst hfa; rfl
  | cont => subst hfa; rfl
  | ret v => obtain ⟨u, rfl, hu'⟩ := hfa; exact hu'
end
section
section
variable {P : PC} {D : FD} {F : FX}
noncomputable def opBool : List AV → EP
  | [.ref a] => fun Q _ σ => ∃ l, σ.lst a = some l ∧ Q (.bool (!l.isEmpty)) σ
  | _ => fun _ _ _ => False
end
end
section
noncomputable def EqD (hp : AH) : Nat → AV → AV → Bool → Prop
  | _, .int x, .int y, b => b = decide (x = y)
  | n + 1, .ref a, .ref c, b => (a = c ∧ b = true) ∨ (a ≠ c ∧ ∃ xs ys, ((hp a = some (.list xs) ∧ hp c = some (.list ys)) ∨ (hp a = some (.tup xs) ∧ hp c = some (.tup ys) ∧ xs.length = ys.length)) ∧
      ((xs.length ≠ ys.length ∧ b = false) ∨ (xs.length = ys.length ∧ ∃ e : Nat → Bool, (∀ (j : Nat) (x y : AV), xs[j]? = some x → ys[j]? = some y → EqD hp n x y (e j)) ∧ b = (List.range xs.length).all e)))
  | _, _, _, _ => False
section
variable {P : PC} {D : FD} {F : FX} {σ : St} {s : Shared}
noncomputable def opInD : AV → AV → EP
  | .ref x, .ref l => fun Q _ σ => ∃ (as : List Addr) (e : Addr → Bool), σ.hp l = some (.list (as.map .ref)) ∧ (∀ a ∈ as, EqD σ.hp 5 (.ref a) (.ref x) (e a)) ∧ Q (.bool (as.any e)) σ
  | _, _ => fun _ _ _ => False
noncomputable def opNotInD : AV → AV → EP
  | .ref x, .ref l => fun Q _ σ => ∃ (as : List Addr) (e : Addr → Bool), σ.hp l = some (.list (as.map .ref)) ∧ (∀ a ∈ as, EqD σ.hp 5 (.ref a) (.ref x) (e a)) ∧ Q (.bool (!as.any e)) σ
  | _, _ => fun _ _ _ => False
noncomputable def opEqD : AV → AV → EP
  | .ref x, .ref l => fun Q _ σ => ∃ xs ys, σ.hp x = some (.list xs) ∧ σ.hp l = some (.list ys) ∧ xs.length ≠ ys.length ∧ Q (.bool false) σ
  | _, _ => fun _ _ _ => False
noncomputable def refB (e : Addr → Bool) : Value → Bool
  | .ref a => e a
  | _ => false
end
end
section
section
variable {P : PC} {D : FD}
noncomputable def pLenSet (q : LP) : EP := fun Q E σ => q (fun vs σ₁ => ∃ (l : Addr) (ns m : List Int), vs = [.ref l] ∧ σ₁.lst l = some (intsA ns) ∧ ns.length < 1000 ∧ m.Nodup ∧ (∀ k, k ∈ m ↔ k ∈ ns) ∧ Q (.int m.length) σ₁) E σ
end
end
section
section
variable {P : PC} {D : FD} {F : FX} {σ : St} {s : Shared}
noncomputable def pRev (p : EP) : EP := fun Q E σ => p (fun v σ₁ => ∃ a xs, v = .ref a ∧ σ₁.lst a = some xs ∧ ∀ b, σ₁.hp b = none → Q (.ref b) ⟨σ₁.loc, upd σ₁.hp b (.list xs.reverse)⟩) E σ
theorem Reps.rev {l : List AV} {vs : List Value} (r : Reps l vs) : Reps l.reverse vs.reverse := by
  induction l generalizing vs with
  | nil => cases vs with
    | nil => exact trivial
    | cons _ _ => exact r.elim
  | cons a l ih => cases vs with
    | nil => exact r.elim
    | cons v vs =>
      rw [List.reverse_cons, List.reverse_cons]
      exact (ih r.2).append ⟨r.1, trivial⟩
theorem sim_rev {value step : Expr} {p' pos : Pos} {p : EP} (h : SimE P D value p) (hs : SimE P D step (pUn opNeg (pInt 1))) : SimE P D (.Subscript value (.Slice none none (some step) p') pos) (pRev p) := by
  intro F O σ s Q E R hp
  refine Subscript_ (wpAny_mono (h F O σ s _ E R hp) ?_ fun _ _ x => x)
  rintro uu s₁ ⟨a, σ₁, ha, R₁, h₁⟩
  refine wpAny_Slice (wpAny_evalPart_none (wpAny_evalPart_none ?_))
  refine wpAny_evalPart_some (wpAny_mono (hs F O σ₁ s₁ (fun v σ' => v = .int (-1) ∧ σ' = σ₁) E R₁ ⟨rfl, rfl⟩) ?_ fun _ _ x => x)
  rintro sv s₃ ⟨b, σ₃, hb, R₃, rfl, rfl⟩
  obtain ⟨a', xs, rfl, e3, h₃⟩ := h₁
  subst ha
  obtain ⟨vs, hv, r, hz⟩ := R₃.isList e3
  have hk : ∀ b o, s₃.heap.get? b = some o → (s₃.heap.push { cls := .type "slice", data := .fields #[.none, .none, sv] }).get? b = some o := fun _ _ e => Heap.get?_push_of_some _ e
  have R₄ := R₃.ext (t := s₃.toks) hk
  refine tail_any (T := "list") (ops := [.ref a', .ref s₃.heap.objs.size]) (hv.push _).typeIs slot_list_getitem.lookup ?_ rfl
  obtain ⟨t, rfl⟩ := hb
  refine wpAny_getItem_list_slice (hv.push _) ⟨_, Heap.get?_push_size _ rfl, rfl, rfl⟩ .none .none (.int _ t) (by decide) ?_ (by have := r.length; rw [List.size_toArray, sizeLine_eq]; (first | lia | omega))
  refine .ref (R₄.push _ (.list xs.reverse) rfl ⟨_, 0, ?_, r.rev, ?_⟩) (h₃ _ ((R₄.fresh (heap_size_none _)).2))
  · rw [krv_pick]
    exact Heap.get?_push_size _ rfl
  · rw [List.length_reverse]; exact hz

noncomputable def sRaiseV (p : EP) : SP := fun _ E σ => p (fun v σ' => ∃ k, v = .int k ∧ k.natAbs < 1000000 ∧ E .value σ') E σ
theorem sim_raiseV {x a b : Str} {np cpos pos jpos fpos pos1 pos2 : Pos} {k1 k2 : Nat} {e : Expr} {p : EP} (hx : x ∈ D.globs) (hf : freeName P x) (hv : bootBuiltins x = some (.type "ValueError")) (he : SimE P D e p) (hla : a.length < 1000 := by decide) (hlb : b.length < 1000 := by decide) (hc : D.calm = true := by rfl) (hd : (x == ("__debug__" : Str)) = false := by decide) :
    SimS P D (.Raise (some (.Call (.Name x np) [.JoinedStr [.Constant (.str a) k1 pos1, .FormattedValue e 114 none fpos, .Constant (.str b) k2 pos2] jpos] [] cpos)) none pos) (sRaiseV p) := by
  intro F O σ s Q E R hp
  refine wpAny_Raise_call PySem.F.excCall_ValueError PySem.F.excRaise_ValueError (O.hh hc) rfl (glob_bi O R hx hf hv ⟨rfl, ?_⟩ hd)
  refine Calls.evalArgs_plain ?_
  have fin : ∀ (u : Value) (s₁ : Shared) (σ₁ : St), Rel P D F σ₁ s₁ → E .value σ₁ → (([] : List (Str × Value)) = [] ∧ [u].length ≤ sizeLine ∧ ∀ h' e, Heap.MadeExc s₁.heap h' e "ValueError" [u] → RX P D F E (.ref e) { s₁ with heap := h' }) :=
    fun u s₁ σ₁ R₁ h₁ => ⟨rfl, by rw [sizeLine_eq]; simp, fun h' e' hm => ⟨.value, σ₁, x_made (ex := .value) R₁ (Heap.MadeExc.of hm), h₁⟩⟩
  refine wpAny_items_cons (wpAny_JoinedStr ?_) rfl
  refine Constant_str ⟨_, _, rfl, ?_, ?_⟩
  · rw [strLen_append, sizeLine_eq, show Str.empty.length = 0 from rfl]; (first | lia | omega)
  refine wpAny_FormattedValue_repr (wpAny_mono (he F O σ _ _ E R.toks hp) ?_ fun _ _ x => x)
  rintro u s₁ ⟨v, σ₁, hv', R₁, k, rfl, hk, h₁⟩
  obtain ⟨t, rfl⟩ := hv'
  have hlt : k.natAbs.log2 < 1920 := by
    by_cases h0 : k.natAbs = 0
    · rw [h0]; decide
    · exact Nat.lt_trans ((Nat.log2_lt (k := 20) h0).mpr (Nat.lt_trans hk (by decide))) (by decide)
  have htx : (Str.ofString (toString k)).length ≤ 8 := by
    rw [PySem.ofString_length]; exact int_text_length_le10 (k := 7) (by decide) (Nat.lt_trans hk (by decide))
  refine pyReprObj_int hlt (formatField_str (fun t' tk => ⟨_, _, rfl, ?_, ?_⟩) ?_)
  · rw [strLen_append, strLen_append, sizeLine_eq, show Str.empty.length = 0 from rfl]; (first | lia | omega)
  · refine Constant_str ⟨_, _, rfl, ?_, ?_, ?_⟩
    · rw [strLen_append, strLen_append, strLen_append, sizeLine_eq, show Str.empty.length = 0 from rfl]; (first | lia | omega)
    · rw [strLen_append, strLen_append, strLen_append, sizeLine_eq, show Str.empty.length = 0 from rfl]; (first | lia | omega)
    · exact wpAny_items_nil (fin _ _ σ₁ R₁.toks.toks h₁)
  · rw [sizeLine_eq]; (first | lia | omega)
end
end
section
-- _NodeInfo.__init__
noncomputable def D_record : FD := { vars := [("self", .loc), ("node", .loc)], globs := [], calm := true, fn := true, depth := 0 }
noncomputable def pt_record : SP :=
  (sSeq (sAssign (pName 1) (aAttrN 0 (pName 0))) (sSeq (sAssign (pInt 0) (aAttrN 1 (pName 0))) (sAssign (pList lNil) (aAttrN 2 (pName 0)))))
noncomputable def fp_record : FP := fpOf 2 pt_record
-- TopologicalSorter.__init__
noncomputable def D_sorter : FD := { vars := [("self", .loc), ("graph", .loc), ("node", .loc), ("predecessors", .loc)], globs := [], calm := true, fn := true, depth := 0 }
noncomputable def pt_sorter : SP :=
  (sSeq (sAssign pDict0 (aAttrS 0 (pName 0))) (sSeq (sAssign pNone (aAttrS 1 (pName 0))) (sSeq (sAssign (pInt 0) (aAttrS 2 (pName 0))) (sSeq (sAssign (pInt 0) (aAttrS 3 (pName 0))) (sIf (tOf (pBin opIsNotN (pName 1) pNone)) sDead sNil)))))
noncomputable def fp_sorter : FP := fpDflt 1 pt_sorter
-- TopologicalSorter._get_nodeinfo
noncomputable def D_get_nodeinfo : FD := { vars := [("self", .loc), ("node", .loc), ("result", .loc)], globs := ["_NodeInfo"], calm := true, fn := true, depth := 1 }
noncomputable def pt_get_nodeinfo : SP :=
  (sSeq (sIf (tOf (pBin opIsN (pWal (pBm "dict" opGet (pUn (opAttrS 0) (pName 0)) (lCons (pName 1) lNil)) (aName 2)) pNone)) (sAssign (pNewN fp_record (lCons (pName 1) lNil)) fun v Q E σ => (aItem (pUn (opAttrS 0) (pName 0)) (pName 1)) v (fun _ σ' => (aName 2) v Q E σ') E σ) sNil) (sRet (pName 2)))
noncomputable def fp_get_nodeinfo : FP := fpOf 2 pt_get_nodeinfo
-- TopologicalSorter.add
noncomputable def D_add : FD := { vars := [("self", .loc), ("node", .loc), ("predecessors", .loc), ("nodeinfo", .loc), ("pred", .loc), ("pred_info", .loc)], globs := ["len"], calm := true, fn := true, depth := 2 }
noncomputable def pt_add : SP :=
  (sSeq (sIf (tOf (pBin opIsNotN (pUn (opAttrS 1) (pName 0)) pNone)) sDead sNil) (sSeq (sAssign (pMeth (pName 0) fp_get_nodeinfo (lCons (pName 1) lNil)) (aName 3)) (sSeq (sAugN 1 iAdd (pName 3) (pBi opLen (lCons (pName 2) lNil))) (sFor (iSeq (pName 2)) (aName 4) (sSeq (sAssign (pMeth (pName 0) fp_get_nodeinfo (lCons (pName 4) lNil)) (aName 5)) (sExpr (pBm "list" opAppend (pUn (opAttrN 2) (pName 5)) (lCons (pName 1) lNil))))))))
noncomputable def fp_add : FP := fpStar 2 pt_add
-- TopologicalSorter._find_cycle
noncomputable def D_find_cycle : FD := { vars := [("self", .loc), ("n2i", .loc), ("stack", .loc), ("itstack", .loc), ("seen", .loc), ("node2stacki", .loc), ("node", .loc)], globs := ["set", "iter", "len", "StopIteration"], calm := true, fn := true, depth := 0 }
noncomputable def pt_find_cycle : SP :=
  (sSeq (sAssign (pUn (opAttrS 0) (pName 0)) (aName 1)) (sSeq (sAssign (pList lNil) (aName 2)) (sSeq (sAssign (pList lNil) (aName 3)) (sSeq (sAssign opSet0 (aName 4)) (sSeq (sAssign pDict0 (aName 5)) (sSeq (sFor (iSeq (pName 1)) (aName 6) (sSeq (sIf (tOf (pBin opIn (pName 6) (pName 4))) (sFlow .cont) sNil) (sWhile (tOf (pBool true)) (sSeq (sIf (tOf (pBin opIn (pName 6) (pName 4))) (sIf (tOf (pBin opIn (pName 6) (pName 5))) (sRet (pBin opAdd (pSlice (pName 2) (pBin opItem (pName 5) (pName 6)) pNone) (pList (lCons (pName 6) lNil)))) sNil) (sSeq (sExpr (pBm "set" opAdd' (pName 4) (lCons (pName 6) lNil))) (sSeq (sExpr (pBm "list" opAppend (pName 3) (lCons (pIterNext (pUn (opAttrN 2) (pBin opItem (pName 1) (pName 6)))) lNil))) (sSeq (sAssign (pBi opLen (lCons (pName 2) lNil)) (aItem (pName 5) (pName 6))) (sExpr (pBm "list" opAppend (pName 2) (lCons (pName 6) lNil))))))) (sWhile (tOf (pName 2)) (sTry (sSeq (sAssign (pNextCall (pBin opItem (pName 3) (pUn opNeg (pInt 1)))) (aName 6)) (sFlow .brk)) sNil (sSeq (sDel (pName 5) (pBm "list" opPop (pName 2) lNil)) (sExpr (pBm "list" opPop (pName 3) lNil))) .stop) (sFlow .brk))) sNil))) (sRet pNone)))))))
noncomputable def fp_find_cycle : FP := fpOf 1 pt_find_cycle
-- TopologicalSorter.prepare
noncomputable def D_prepare : FD := { vars := [("self", .loc), ("cycle", .loc)], globs := ["CycleError"], calm := true, fn := true, depth := 1 }
noncomputable def D_prepare_c1 : FD := { vars := [("i", .loc)], globs := [], calm := true, fn := false, depth := 1 }
noncomputable def pt_prepare : SP :=
  (sSeq (sIf (tOf (pBin opIsNotN (pUn (opAttrS 1) (pName 0)) pNone)) sDead sNil) (sSeq (sAssign (pComp [none] (iVals (pUn (opAttrS 0) (pName 0))) (aName 0) (cTest (some (tOf (pBin opEq (pUn (opAttrN 1) (pName 0)) (pInt 0)))) (cEmit (pUn (opAttrN 0) (pName 0))))) (aAttrS 1 (pName 0))) (sSeq (sAssign (pMeth (pName 0) fp_find_cycle lNil) (aName 1)) (sIf (tOf (pName 1)) (sRaise .cycle (vCons vNil (vCons (vOf (pName 1)) vNil))) sNil))))
noncomputable def fp_prepare : FP := fpOf 1 pt_prepare
-- TopologicalSorter.get_ready
noncomputable def D_get_ready : FD := { vars := [("self", .loc), ("result", .loc), ("n2i", .loc), ("node", .loc)], globs := ["tuple", "_NODE_OUT", "len"], calm := true, fn := true, depth := 0 }
noncomputable def pt_get_ready : SP :=
  (sSeq (sIf (tOf (pBin opIsN (pUn (opAttrS 1) (pName 0)) pNone)) sDead sNil) (sSeq (sAssign (pBi opTuple (lCons (pUn (opAttrS 1) (pName 0)) lNil)) (aName 1)) (sSeq (sAssign (pUn (opAttrS 0) (pName 0)) (aName 2)) (sSeq (sFor (iSeq (pName 1)) (aName 3) (sAssign (pInt (-1)) (aAttrN 1 (pBin opItem (pName 2) (pName 3))))) (sSeq (sExpr (pBm "list" opClear (pUn (opAttrS 1) (pName 0)) lNil)) (sSeq (sAugS 2 iAdd (pName 0) (pBi opLen (lCons (pName 1) lNil))) (sRet (pName 1))))))))
noncomputable def fp_get_ready : FP := fpOf 1 pt_get_ready
-- TopologicalSorter.done
noncomputable def D_done : FD := { vars := [("self", .loc), ("nodes", .loc), ("n2i", .loc), ("node", .loc), ("nodeinfo", .loc), ("stat", .loc), ("successor", .loc), ("successor_info", .loc)], globs := ["_NODE_OUT", "_NODE_DONE"], calm := true, fn := true, depth := 0 }
noncomputable def pt_done : SP :=
  (sSeq (sIf (tOf (pBin opIsN (pUn (opAttrS 1) (pName 0)) pNone)) sDead sNil) (sSeq (sAssign (pUn (opAttrS 0) (pName 0)) (aName 2)) (sFor (iSeq (pName 1)) (aName 3) (sSeq (sIf (tOf (pBin opIsN (pWal (pBm "dict" opGet (pName 2) (lCons (pName 3) lNil)) (aName 4)) pNone)) sDead sNil) (sSeq (sAssign (pUn (opAttrN 1) (pName 4)) (aName 5)) (sSeq (sIf (tOf (pBin opNe (pName 5) (pInt (-1)))) (sIf (tOf (pBin opGe (pName 5) (pInt 0))) sDead (sIf (tOf (pBin opEq (pName 5) (pInt (-2)))) sDead sDead)) sNil) (sSeq (sAssign (pInt (-2)) (aAttrN 1 (pName 4))) (sSeq (sFor (iSeq (pUn (opAttrN 2) (pName 4))) (aName 6) (sSeq (sAssign (pBin opItem (pName 2) (pName 6)) (aName 7)) (sSeq (sAugN 1 opSub (pName 7) (pInt 1)) (sIf (tOf (pBin opEq (pUn (opAttrN 1) (pName 7)) (pInt 0))) (sExpr (pBm "list" opAppend (pUn (opAttrS 1) (pName 0)) (lCons (pName 6) lNil))) sNil)))) (sAugS 3 iAdd (pName 0) (pInt 1))))))))))
noncomputable def fp_done : FP := fpStar 1 pt_done
end
section
noncomputable def Ext (hp hp' : AH) : Prop := ∀ a o, hp a = some o → hp' a = some o
theorem Ext.refl (hp : AH) : Ext hp hp := fun _ _ h => h
theorem Ext.trans {a b c : AH} (h : Ext a b) (k : Ext b c) : Ext a c := fun _ _ e => k _ _ (h _ _ e)
theorem upd_self (hp : AH) (a : Addr) (o : AObj) : upd hp a o a = some o := if_pos rfl
theorem upd_ne {hp : AH} {a b : Addr} {o : AObj} (h : b ≠ a) : upd hp a o b = hp b := if_neg h
theorem upd_at {hp : AH} {a b : Addr} {o : AObj} {x : Option AObj} (h : b ≠ a) (k : hp b = x) : upd hp a o b = x := (upd_ne h).trans k
theorem Ext.new {hp : AH} {a : Addr} (o : AObj) (h : hp a = none) : Ext hp (upd hp a o) := fun b o' e => by
  rw [upd_ne (fun q => by rw [q, h] at e; cases e)]; exact e
theorem Ext.into {hp hp' : AH} {a : Addr} {o : AObj} (h : Ext hp hp') (ha : hp a = none) : Ext hp (upd hp' a o) := fun b o' e => by
  rw [upd_ne (fun q => by rw [q, ha] at e; cases e)]; exact h _ _ e
theorem ne_of {hp : AH} {a b : Addr} {o : AObj} (h : hp a = some o) (h' : hp b = none) : a ≠ b := fun e => by rw [e, h'] at h; cases h
theorem ne_obj {hp : AH} {a b : Addr} {o o' : AObj} (h : hp a = some o) (h' : hp b = some o') (n : o ≠ o') : a ≠ b := fun e => by rw [e, h'] at h; cases h; exact n rfl
theorem Ext.none {hp hp' : AH} {a : Addr} (h : Ext hp hp') (e : hp' a = none) : hp a = none := by
  cases q : hp a with
  | none => rfl
  | some o => rw [h _ _ q] at e; cases e
theorem isSd_of {hp : AH} {d : Addr} {a b c e : Option AV} (h : hp d = some (.sd a b c e)) : isSd (hp d) := by rw [h]; trivial
theorem Ext.some {hp hp' : AH} {a : Addr} (h : Ext hp hp') (e : hp a ≠ Option.none) : hp' a ≠ Option.none := fun q => e (h.none q)
theorem upd_some {hp : AH} {a b : Addr} {o : AObj} (e : hp b ≠ Option.none) : upd hp a o b ≠ Option.none := fun q => by
  unfold upd at q
  split at q
  · cases q
  · exact e q
theorem Ext.isSd {hp hp' : AH} {d : Addr} (h : Ext hp hp') (k : isSd (hp d)) : isSd (hp' d) := by
  cases q : hp d with
  | none => rw [q] at k; exact k.elim
  | some o => rw [h _ _ q]; rw [q] at k; exact k
theorem upd_isSd {hp : AH} {a d : Addr} {v0 v1 v2 v3 : Option AV} (k : isSd (hp d)) : isSd (upd hp a (.sd v0 v1 v2 v3) d) := by
  by_cases e : d = a
  · rw [e, upd_self]; trivial
  · rw [upd_ne e]; exact k
theorem upd_isSd' {hp : AH} {a d : Addr} {o o' : AObj} (h : hp a = some o') (n : ¬ isSd (some o')) (k : isSd (hp d)) : isSd (upd hp a o d) := by
  rw [upd_ne (fun e => by rw [e, h] at k; exact n k)]; exact k

theorem record_spec {hp : AH} {x d : Addr} {nv : AV} {Q : AV → AH → Prop} {E : Ex → AH → Prop} (hx : hp x = none) (hd : hp d = none) (hxd : x ≠ d)
    (h : ∀ hp' sl, Ext hp hp' → hp sl = none → hp' x = some (.rcd d [some nv, some (.int 0), some (.ref sl)]) → isSd (hp' d) → hp' sl = some (.list []) → Q .none hp') :
    fp_record [.ref x, nv] Q E (upd (upd hp d (.sd none none none none)) x (.rcd d [])) := by
  refine ⟨rfl, ?_⟩
  have e0 : upd (upd hp d (.sd none none none none)) x (.rcd d []) x = some (.rcd d []) := upd_self ..
  have e1 : upd (upd hp d (.sd none none none none)) x (.rcd d []) d = some (.sd none none none none) := by rw [upd_ne (Ne.symm hxd)]; exact upd_self ..
  have e2 : Ext hp (upd (upd hp d (.sd none none none none)) x (.rcd d [])) := (Ext.new _ hd).into hx
  generalize upd (upd hp d (.sd none none none none)) x (.rcd d []) = h0 at e0 e1 e2
  have f0 := upd_self h0 x (.rcd d [some nv])
  have f1 := upd_at (o := .rcd d [some nv]) (Ne.symm hxd) e1
  have f2 := Ext.into (o := .rcd d [some nv]) e2 hx
  refine ⟨nv, rfl, .ref x, rfl, d, [], e0, isSd_of e1, ?_⟩
  show sSeq _ _ _ _ ⟨_, upd h0 x (.rcd d [some nv])⟩
  generalize upd h0 x (.rcd d [some nv]) = hp' at f0 f1 f2
  have g1 := upd_at (o := .rcd d [some nv, some (.int 0)]) (Ne.symm hxd) f1
  have g0 := upd_self hp' x (.rcd d [some nv, some (.int 0)])
  have g2 := Ext.into (o := .rcd d [some nv, some (.int 0)]) f2 hx
  refine ⟨.ref x, rfl, d, _, f0, isSd_of f1, ?_⟩
  show sAssign _ _ _ _ ⟨_, upd hp' x (.rcd d [some nv, some (.int 0)])⟩
  generalize upd hp' x (.rcd d [some nv, some (.int 0)]) = hp'' at g0 g1 g2
  refine ⟨by decide, fun sl hsl => ?_⟩
  have n1 := ne_of g1 hsl
  have n0 := ne_of g0 hsl
  refine ⟨.ref x, rfl, d, _, upd_at n0 g0, isSd_of (upd_at n1 g1), ?_⟩
  exact h _ sl ((g2.into (g2.none hsl)).into hx) (g2.none hsl) (upd_self ..) (isSd_of (upd_at (Ne.symm hxd) (upd_at n1 g1))) (upd_at (Ne.symm n0) (upd_self ..))

structure Srt (hp : AH) (own : Addr → Prop) (x d n2i : Addr) (rec suc : Int → Addr) (keys : List Int) (cnt : Int → Int) (succ : Int → List Int) (rdy : AV) (np nf : Int) : Prop where
  hx : hp x = some (.inst d)
  hd : hp d = some (.sd (some (.ref n2i)) (some rdy) (some (.int np)) (some (.int nf)))
  hn : ∃ ep, hp n2i = some (.dict (keys.map fun k => (k, .ref (rec k))) ep)
  hr : ∀ k ∈ keys, ∃ dd, hp (rec k) = some (.rcd dd [some (.int k), some (.int (cnt k)), some (.ref (suc k))]) ∧ isSd (hp dd)
  hr2 : ∀ k ∈ keys, ∃ dd vs, hp (rec k) = some (.rcd dd vs) ∧ own dd
  hs : ∀ k ∈ keys, hp (suc k) = some (.list (intsA (succ k)))
  inj : ∀ k ∈ keys, ∀ j ∈ keys, suc k = suc j → k = j
  nd : keys.Nodup
  od : own d
  on : own n2i
  orr : ∀ k ∈ keys, own (rec k)
  os : ∀ k ∈ keys, own (suc k)
  out : ∀ k, k ∉ keys → cnt k = 0 ∧ succ k = []
  al : ∀ a, own a → hp a ≠ none

noncomputable def Frm (hp : AH) (own : Addr → Prop) (hp' : AH) (own' : Addr → Prop) : Prop := ∀ a o, hp a = some o → ¬ own a → hp' a = some o ∧ ¬ own' a
theorem Frm.refl (hp : AH) (own : Addr → Prop) : Frm hp own hp own := fun _ _ h k => ⟨h, k⟩
theorem Frm.trans {h1 h2 h3 : AH} {o1 o2 o3 : Addr → Prop} (a : Frm h1 o1 h2 o2) (b : Frm h2 o2 h3 o3) : Frm h1 o1 h3 o3 := fun x o e n => by
  obtain ⟨p, q⟩ := a x o e n
  exact b x o p q
theorem Frm.of_ext {hp hp' : AH} {own : Addr → Prop} (h : Ext hp hp') : Frm hp own hp' own := fun a o e n => ⟨h _ _ e, n⟩
theorem Frm.set {hp : AH} {own : Addr → Prop} {a : Addr} {o : AObj} (h : own a) : Frm hp own (upd hp a o) own := fun b o' e n => ⟨upd_at (fun q => n (q ▸ h)) e, n⟩
section
variable {hp hp' : AH} {own : Addr → Prop} {x d n2i : Addr} {rec suc : Int → Addr} {keys : List Int} {cnt : Int → Int} {succ : Int → List Int} {rdy : AV} {np nf : Int}
theorem Srt.ext (S : Srt hp own x d n2i rec suc keys cnt succ rdy np nf) (h : Ext hp hp') : Srt hp' own x d n2i rec suc keys cnt succ rdy np nf :=
  { S with
    hx := h _ _ S.hx, hd := h _ _ S.hd, hn := by obtain ⟨ep, e⟩ := S.hn; exact ⟨ep, h _ _ e⟩
    hr := fun k hk => by obtain ⟨dd, e, q⟩ := S.hr k hk; exact ⟨dd, h _ _ e, h.isSd q⟩
    hr2 := fun k hk => by obtain ⟨dd, vs, e, q⟩ := S.hr2 k hk; exact ⟨dd, vs, h _ _ e, q⟩
    hs := fun k hk => h _ _ (S.hs k hk)
    al := fun a ha => h.some (S.al a ha) }
theorem Srt.setd (S : Srt hp own x d n2i rec suc keys cnt succ rdy np nf) (rdy' : AV) (np' nf' : Int) : Srt (upd hp d (.sd (some (.ref n2i)) (some rdy') (some (.int np')) (some (.int nf')))) own x d n2i rec suc keys cnt succ rdy' np' nf' :=
  { S with
    hx := upd_at (fun q => by have := S.hx; rw [q, S.hd] at this; cases this) S.hx
    hd := upd_self ..
    hn := by obtain ⟨ep, e⟩ := S.hn; exact ⟨ep, upd_at (fun q => by rw [q, S.hd] at e; cases e) e⟩
    hr := fun k hk => by
      obtain ⟨dd, e, q⟩ := S.hr k hk
      exact ⟨dd, upd_at (fun q => by rw [q, S.hd] at e; cases e) e, upd_isSd q⟩
    hr2 := fun k hk => by
      obtain ⟨dd, vs, e, q⟩ := S.hr2 k hk
      exact ⟨dd, vs, upd_at (fun q => by rw [q, S.hd] at e; cases e) e, q⟩
    hs := fun k hk => upd_at (fun q => by have := S.hs k hk; rw [q, S.hd] at this; cases this) (S.hs k hk)
    al := fun a ha => upd_some (S.al a ha) }
noncomputable def setI {α : Type} (f : Int → α) (k : Int) (v : α) : Int → α := fun j => if j = k then v else f j
theorem setI_self {α : Type} (f : Int → α) (k : Int) (v : α) : setI f k v k = v := if_pos rfl
theorem setI_ne {α : Type} {f : Int → α} {k j : Int} {v : α} (h : j ≠ k) : setI f k v j = f j := if_neg h
theorem Srt.rec_inj (S : Srt hp own x d n2i rec suc keys cnt succ rdy np nf) {k j : Int} (hk : k ∈ keys) (hj : j ∈ keys) (e : rec k = rec j) : k = j := by
  obtain ⟨_, h1, _⟩ := S.hr k hk
  obtain ⟨_, h2, _⟩ := S.hr j hj
  rw [e, h2] at h1
  cases h1; rfl
theorem Srt.setc (S : Srt hp own x d n2i rec suc keys cnt succ rdy np nf) {k : Int} (hk : k ∈ keys) (c : Int) {dd : Addr} (hdd : isSd (hp dd)) (odd : own dd) : Srt (upd hp (rec k) (.rcd dd [some (.int k), some (.int c), some (.ref (suc k))])) own x d n2i rec suc keys (setI cnt k c) succ rdy np nf := by
  obtain ⟨dk, ek, qk⟩ := S.hr k hk
  exact { S with
    hx := upd_at (fun q => by have := S.hx; rw [q, ek] at this; cases this) S.hx
    hd := upd_at (fun q => by have := S.hd; rw [q, ek] at this; cases this) S.hd
    hn := by obtain ⟨ep, e⟩ := S.hn; exact ⟨ep, upd_at (fun q => by rw [q, ek] at e; cases e) e⟩
    hr := fun j hj => by
      by_cases e : j = k
      · subst e
        exact ⟨dd, by rw [upd_self, setI_self], upd_isSd' ek id hdd⟩
      · obtain ⟨dj, ej, qj⟩ := S.hr j hj
        exact ⟨dj, by rw [upd_ne (fun q => e (S.rec_inj hj hk q)), setI_ne e]; exact ej, upd_isSd' ek id qj⟩
    hr2 := fun j hj => by
      by_cases e : j = k
      · subst e
        exact ⟨dd, _, upd_self .., odd⟩
      · obtain ⟨dj, vs, ej, qj⟩ := S.hr2 j hj
        exact ⟨dj, vs, by rw [upd_ne (fun q => e (S.rec_inj hj hk q))]; exact ej, qj⟩
    hs := fun j hj => upd_at (fun q => by have := S.hs j hj; rw [q, ek] at this; cases this) (S.hs j hj)
    out := fun j hj => ⟨by rw [setI_ne (fun e => hj (by rw [e]; exact hk))]; exact (S.out j hj).1, (S.out j hj).2⟩
    al := fun a ha => upd_some (S.al a ha) }
theorem Srt.sets (S : Srt hp own x d n2i rec suc keys cnt succ rdy np nf) {k : Int} (hk : k ∈ keys) (l : List Int) : Srt (upd hp (suc k) (.list (intsA l))) own x d n2i rec suc keys cnt (setI succ k l) rdy np nf := by
  have ek := S.hs k hk
  exact { S with
    hx := upd_at (fun q => by have := S.hx; rw [q, ek] at this; cases this) S.hx
    hd := upd_at (fun q => by have := S.hd; rw [q, ek] at this; cases this) S.hd
    hn := by obtain ⟨ep, e⟩ := S.hn; exact ⟨ep, upd_at (fun q => by rw [q, ek] at e; cases e) e⟩
    hr := fun j hj => by
      obtain ⟨dj, ej, qj⟩ := S.hr j hj
      exact ⟨dj, upd_at (fun q => by rw [q, ek] at ej; cases ej) ej, upd_isSd' ek id qj⟩
    hr2 := fun j hj => by
      obtain ⟨dj, vs, ej, qj⟩ := S.hr2 j hj
      exact ⟨dj, vs, upd_at (fun q => by rw [q, ek] at ej; cases ej) ej, qj⟩
    hs := fun j hj => by
      by_cases e : j = k
      · subst e; rw [upd_self, setI_self]
      · rw [upd_ne (fun q => e (S.inj j hj k hk q)), setI_ne e]; exact S.hs j hj
    out := fun j hj => ⟨(S.out j hj).1, by rw [setI_ne (fun e => hj (by rw [e]; exact hk))]; exact (S.out j hj).2⟩
    al := fun a ha => upd_some (S.al a ha) }
theorem Srt.setl (S : Srt hp own x d n2i rec suc keys cnt succ rdy np nf) {a : Addr} {l l' : List AV} (ha : hp a = some (.list l)) (hn : ∀ k ∈ keys, suc k ≠ a) : Srt (upd hp a (.list l')) own x d n2i rec suc keys cnt succ rdy np nf :=
  { S with
    hx := upd_at (fun q => by have := S.hx; rw [q, ha] at this; cases this) S.hx
    hd := upd_at (fun q => by have := S.hd; rw [q, ha] at this; cases this) S.hd
    hn := by obtain ⟨ep, e⟩ := S.hn; exact ⟨ep, upd_at (fun q => by rw [q, ha] at e; cases e) e⟩
    hr := fun j hj => by
      obtain ⟨dj, ej, qj⟩ := S.hr j hj
      exact ⟨dj, upd_at (fun q => by rw [q, ha] at ej; cases ej) ej, upd_isSd' ha id qj⟩
    hr2 := fun j hj => by
      obtain ⟨dj, vs, ej, qj⟩ := S.hr2 j hj
      exact ⟨dj, vs, upd_at (fun q => by rw [q, ha] at ej; cases ej) ej, qj⟩
    hs := fun j hj => upd_at (hn j hj) (S.hs j hj)
    al := fun a ha => upd_some (S.al a ha) }
theorem Srt.odd (S : Srt hp own x d n2i rec suc keys cnt succ rdy np nf) {k : Int} (hk : k ∈ keys) {dd : Addr} {vs : List (Option AV)} (e : hp (rec k) = some (.rcd dd vs)) : own dd := by
  obtain ⟨d2, v2, e2, q⟩ := S.hr2 k hk
  rw [e] at e2; cases e2; exact q
theorem Srt.frame {o1 o2 : Addr → Prop} (S : Srt hp own x d n2i rec suc keys cnt succ rdy np nf) (F : Frm hp o1 hp' o2) (dis : ∀ a, own a → ¬ o1 a) (nx : ¬ o1 x) : Srt hp' own x d n2i rec suc keys cnt succ rdy np nf :=
  { S with
    hx := (F _ _ S.hx nx).1, hd := (F _ _ S.hd (dis _ S.od)).1, hn := by obtain ⟨ep, e⟩ := S.hn; exact ⟨ep, (F _ _ e (dis _ S.on)).1⟩
    hr := fun k hk => by
      obtain ⟨dd, e, q⟩ := S.hr k hk
      refine ⟨dd, (F _ _ e (dis _ (S.orr k hk))).1, ?_⟩
      cases h : hp dd with
      | none => rw [h] at q; exact q.elim
      | some o => rw [(F _ _ h (dis _ (S.odd hk e))).1, ← h]; exact q
    hr2 := fun k hk => by obtain ⟨dd, vs, e, q⟩ := S.hr2 k hk; exact ⟨dd, vs, (F _ _ e (dis _ (S.orr k hk))).1, q⟩
    hs := fun k hk => (F _ _ (S.hs k hk) (dis _ (S.os k hk))).1
    al := fun a ha => by
      cases h : hp a with
      | none => exact absurd h (S.al a ha)
      | some o => rw [(F _ _ h (dis a ha)).1]; nofun }
theorem find_rec {k : Int} (hk : k ∈ keys) : (keys.map fun k => (k, AV.ref (rec k))).find? (fun e => e.1 = k) = some (k, .ref (rec k)) := by
  induction keys with
  | nil => cases hk
  | cons a l ih =>
    by_cases e : a = k
    · subst e; simp
    · have : k ∈ l := by rcases List.mem_cons.mp hk with h | h; exact absurd h.symm e; exact h
      rw [List.map_cons, List.find?_cons_of_neg (by simpa using e)]
      exact ih this
theorem find_none {k : Int} (hk : k ∉ keys) : (keys.map fun k => (k, AV.ref (rec k))).find? (fun e => e.1 = k) = none := by
  rw [List.find?_eq_none]
  intro e he
  obtain ⟨j, hj, rfl⟩ := List.mem_map.mp he
  simp only [decide_eq_true_eq]
  exact fun q => hk (q ▸ hj)
end
end
section
theorem sorter_spec {Q : AV → AH → Prop} {E : Ex → AH → Prop} {hp0 : AH} {x d : Addr} (hx : hp0 x = none) (hd : hp0 d = none) (hxd : x ≠ d)
    (h : ∀ hp' own n2i rec suc, Ext hp0 hp' → (∀ a, own a → hp0 a = none) → ¬ own x → Srt hp' own x d n2i rec suc [] (fun _ => 0) (fun _ => []) .none 0 0 → Q .none hp') :
    fp_sorter [.ref x] Q E (upd (upd hp0 d (.sd none none none none)) x (.inst d)) := by
  refine ⟨rfl, ?_⟩
  have e0 : upd (upd hp0 d (.sd none none none none)) x (.inst d) x = some (.inst d) := upd_self ..
  have e1 : upd (upd hp0 d (.sd none none none none)) x (.inst d) d = some (.sd none none none none) := by rw [upd_ne (Ne.symm hxd)]; exact upd_self ..
  have e2 : Ext hp0 (upd (upd hp0 d (.sd none none none none)) x (.inst d)) := (Ext.new _ hd).into hx
  generalize upd (upd hp0 d (.sd none none none none)) x (.inst d) = hp at e0 e1 e2
  intro n ep hn
  have n0 := ne_of e0 hn
  have n1 := ne_of e1 hn
  have e3 := e2.none hn
  have f0 := upd_at (o := .dict [] ep) n0 e0
  have f1 := upd_at (o := .dict [] ep) n1 e1
  have f3 := upd_self hp n (.dict [] ep)
  have f2 := Ext.into (o := .dict [] ep) e2 e3
  show ∃ _, _
  generalize upd hp n (.dict [] ep) = h1 at f0 f1 f2 f3
  have g0 := fun o => upd_at (o := o) hxd f0
  have g1 := fun o => upd_at (o := o) (Ne.symm n1) f3
  refine ⟨.ref x, rfl, d, _, f0, f1, ⟨_, _, _, _, rfl⟩, ?_⟩
  refine ⟨.ref x, rfl, d, _, g0 _, upd_self .., ⟨_, _, _, _, rfl⟩, ?_⟩
  refine ⟨.ref x, rfl, d, _, upd_at hxd (g0 _), upd_self .., ⟨_, _, _, _, rfl⟩, ?_⟩
  refine ⟨.ref x, rfl, d, _, upd_at hxd (upd_at hxd (g0 _)), upd_self .., ⟨_, _, _, _, rfl⟩, ?_⟩
  refine ⟨.none, rfl, ?_⟩
  refine h _ (fun a => a = d ∨ a = n) n (fun _ => 0) (fun _ => 0) ((((f2.into hd).into hd).into hd).into hd) (by rintro a (rfl | rfl); exact hd; exact e3) (fun q => q.elim hxd n0) ?_
  have nn := Ne.symm n1
  exact { hx := upd_at hxd (upd_at hxd (upd_at hxd (g0 _))), hd := upd_self .., hn := ⟨ep, upd_at nn (upd_at nn (upd_at nn (g1 _)))⟩, hr := nofun, hr2 := nofun, hs := nofun, inj := nofun, nd := List.nodup_nil, od := .inl rfl, on := .inr rfl, orr := nofun, os := nofun, out := fun _ _ => ⟨rfl, rfl⟩, al := by
            rintro a (ha | ha)
            · exact fun q => by rw [ha] at q; exact absurd ((upd_self ..).symm.trans q) nofun
            · rw [ha]; exact upd_some (upd_some (upd_some (upd_some (fun q => by have := f3.symm.trans q; cases this)))) }
section
variable {hp hp' : AH} {own : Addr → Prop} {x d n2i : Addr} {rec suc : Int → Addr} {keys : List Int} {cnt : Int → Int} {succ : Int → List Int} {rdy : AV} {np nf : Int}
theorem Srt.put (S : Srt hp own x d n2i rec suc keys cnt succ rdy np nf) {k : Int} (hk : k ∉ keys) {r sl dd : Addr} (hr : hp r = some (.rcd dd [some (.int k), some (.int 0), some (.ref sl)])) (hdd : isSd (hp dd))
    (hsl : hp sl = some (.list [])) (nr : ∀ j ∈ keys, suc j ≠ sl) (ep' : Nat) :
    Srt (upd hp n2i (.dict (storedA (keys.map fun k => (k, .ref (rec k))) k (.ref r)) ep')) (fun a => own a ∨ a = r ∨ a = sl ∨ a = dd) x d n2i (setI rec k r) (setI suc k sl) (keys ++ [k]) cnt succ rdy np nf := by
  obtain ⟨ep, en⟩ := S.hn
  have hin : ∀ j ∈ keys ++ [k], j = k ∨ (j ∈ keys ∧ j ≠ k) := fun j hj => by
    by_cases e : j = k
    · exact .inl e
    · refine .inr ⟨?_, e⟩
      rcases List.mem_append.mp hj with h | h
      · exact h
      · exact absurd (List.mem_singleton.mp h) e
  refine { S with
    hx := upd_at (fun q => by have := S.hx; rw [q, en] at this; cases this) S.hx
    hd := upd_at (fun q => by have := S.hd; rw [q, en] at this; cases this) S.hd
    hn := ⟨ep', ?_⟩
    hr := fun j hj => ?_
    hr2 := fun j hj => ?_
    hs := fun j hj => ?_
    inj := fun j hj i hi e => ?_
    nd := ?_
    od := .inl S.od
    on := .inl S.on
    orr := fun j hj => ?_
    os := fun j hj => ?_
    out := fun j hj => ?_
    al := fun a ha => ?_ }
  · rw [upd_self]
    have : (keys.map fun k => (k, AV.ref (rec k))).any (fun e => e.1 = k) = false := by
      rw [List.any_eq_false]
      intro e he
      obtain ⟨j, hj, rfl⟩ := List.mem_map.mp he
      simp only [decide_eq_true_eq]
      exact fun q => hk (q ▸ hj)
    unfold storedA
    rw [this]
    simp only [Bool.false_eq_true, if_false, List.map_append, List.map_cons, List.map_nil, setI_self]
    congr 3
    refine List.map_congr_left fun j hj => ?_
    rw [setI_ne (fun e => hk (by rw [← e]; exact hj))]
  · rcases hin j hj with rfl | ⟨h1, h2⟩
    · rw [setI_self, setI_self, (S.out j hk).1]
      exact ⟨dd, upd_at (fun q => by rw [q, en] at hr; cases hr) hr, upd_isSd' en id hdd⟩
    · rw [setI_ne h2, setI_ne h2]
      obtain ⟨dj, ej, qj⟩ := S.hr j h1
      exact ⟨dj, upd_at (fun q => by rw [q, en] at ej; cases ej) ej, upd_isSd' en id qj⟩
  · rcases hin j hj with rfl | ⟨h1, h2⟩
    · rw [setI_self]
      exact ⟨dd, _, upd_at (fun q => by rw [q, en] at hr; cases hr) hr, .inr (.inr (.inr rfl))⟩
    · rw [setI_ne h2]
      obtain ⟨dj, vs, ej, qj⟩ := S.hr2 j h1
      exact ⟨dj, vs, upd_at (fun q => by rw [q, en] at ej; cases ej) ej, .inl qj⟩
  · rcases hin j hj with rfl | ⟨h1, h2⟩
    · rw [setI_self, (S.out j hk).2]
      exact upd_at (fun q => by rw [q, en] at hsl; cases hsl) hsl
    · rw [setI_ne h2]
      exact upd_at (fun q => by have := S.hs j h1; rw [q, en] at this; cases this) (S.hs j h1)
  · rcases hin j hj with rfl | ⟨h1, h2⟩ <;> rcases hin i hi with rfl | ⟨h3, h4⟩
    · rfl
    · rw [setI_self, setI_ne h4] at e; exact absurd e.symm (nr i h3)
    · rw [setI_self, setI_ne h2] at e; exact absurd e (nr j h1)
    · rw [setI_ne h2, setI_ne h4] at e; exact S.inj j h1 i h3 e
  · rw [List.nodup_append]
    exact ⟨S.nd, by simp, fun a ha b hb => by rw [List.mem_singleton.mp hb]; exact fun e => hk (e ▸ ha)⟩
  · rcases hin j hj with rfl | ⟨h1, h2⟩
    · rw [setI_self]; exact .inr (.inl rfl)
    · rw [setI_ne h2]; exact .inl (S.orr j h1)
  · rcases hin j hj with rfl | ⟨h1, h2⟩
    · rw [setI_self]; exact .inr (.inr (.inl rfl))
    · rw [setI_ne h2]; exact .inl (S.os j h1)
  · exact S.out j fun h => hj (List.mem_append_left _ h)
  · rcases ha with h | rfl | rfl | rfl
    · exact upd_some (S.al a h)
    · exact upd_some (by rw [hr]; nofun)
    · exact upd_some (by rw [hsl]; nofun)
    · exact upd_some (fun q => by rw [q] at hdd; exact hdd)
noncomputable def insK (keys : List Int) (k : Int) : List Int := if k ∈ keys then keys else keys ++ [k]
theorem mem_insK {keys : List Int} {k j : Int} : j ∈ insK keys k ↔ j ∈ keys ∨ j = k := by
  unfold insK
  split
  · rename_i h
    exact ⟨.inl, fun q => q.elim id fun e => e ▸ h⟩
  · simp
theorem get_info {k : Int} {Q : AV → AH → Prop} {E : Ex → AH → Prop} (S : Srt hp own x d n2i rec suc keys cnt succ rdy np nf) (hz : keys.length < 1000000)
    (h : ∀ hp' own' rec' suc', Srt hp' own' x d n2i rec' suc' (insK keys k) cnt succ rdy np nf → Frm hp own hp' own' → Q (.ref (rec' k)) hp') :
    fp_get_nodeinfo [.ref x, .int k] Q E hp := by
  obtain ⟨ep, en⟩ := S.hn
  refine ⟨rfl, ?_⟩
  refine ⟨.ref x, rfl, d, _, _, S.hx, S.hd, rfl, ⟨n2i, _, rfl, en, rfl⟩, .int k, rfl, _, ep, en, ?_⟩
  by_cases hk : k ∈ keys
  · rw [find_rec hk]
    refine ⟨_, rfl, ?_⟩
    unfold insK at h; rw [if_pos hk] at h
    exact h hp own rec suc S (Frm.refl _ _)
  · rw [find_none hk]
    unfold insK at h; rw [if_neg hk] at h
    dsimp only [pName, pInt, pBool, pNone, pBin, pUn, tOf, tNot, tAnd, tOr, pIf, lNil, lCons, lStar, starOf, pList, pTuple, pTruth, pSlice, sAssign, aName, aTuple, aItem, aAttrS, aAttrN, sAugName, sAugItem, sAugS, sAugN, sNil, sSeq, sIf, sRet, sFlow, sExpr, sFor, sWhile, sTry, sRaise, sDel, sPair, sDead, vNil, vCons, vOf, iSeq, iRange, iVals, pBi, pBm, pMeth, pCall, pNewS, pNewN, pWal, pComp, cTest, cEmit, cFor, cLoop, pDict0, pListRange, pIterNext, pNextCall, opNextCall, opSet0, opAdd, opSub, opMul, opDiv, opMod, opNeg, opEq, opNe, opLt, opGt, opGe, opIsN, opIsNotN, opIn, opNotIn, opItem, opSetItem, opAttrS, opSetS, opAttrN, opSetN, opLen, opSum, opMin2, opMax2, opAppend, opExtend, opClear, opPop, opCount, opGet, opAdd', opTuple, opList, opSorted, opDel, iAdd, AObj.fld, AObj.setFld, setvs, retV, noX, Option.map, Option.getD, ↓reduceIte, Bool.false_eq_true, Bool.not_true, Bool.not_false, List.cons_append, List.nil_append]
    refine ⟨_, rfl, fun r dd hr hdd hrd => ?_⟩
    refine record_spec hr hdd hrd fun hp' sl ex hsl er edd esl => ?_
    refine ⟨rfl, ?_⟩
    have S' := S.ext ex
    refine ⟨.ref x, rfl, d, _, _, S'.hx, S'.hd, rfl, .int k, rfl, .inr ⟨_, ep, ex _ _ en, by simpa using hz, fun ep' => ?_⟩⟩
    refine ⟨_, rfl, ?_⟩
    have := h _ _ _ _ (S'.put hk er edd esl (fun j hj => ne_of (S.hs j hj) hsl) ep') (fun a o e n => ⟨upd_at (fun q => n (q ▸ S.on)) (ex _ _ e), ?_⟩)
    · rwa [setI_self] at this
    · rintro (q | rfl | rfl | rfl)
      · exact n q
      · rw [hr] at e; cases e
      · rw [hsl] at e; cases e
      · rw [hdd] at e; cases e

noncomputable def addSucc (succ : Int → List Int) (ps : List Int) (k : Int) : Int → List Int := fun p => succ p ++ List.replicate (ps.count p) k
noncomputable def addKeys (keys : List Int) (ps : List Int) : List Int := ps.foldl insK keys
theorem mem_addKeys {ps : List Int} : ∀ {keys : List Int} {j : Int}, j ∈ addKeys keys ps ↔ j ∈ keys ∨ j ∈ ps := by
  induction ps with
  | nil => intro keys j; simp [addKeys]
  | cons p ps ih =>
    intro keys j
    show j ∈ addKeys (insK keys p) ps ↔ _
    rw [ih, mem_insK, List.mem_cons, or_assoc]
theorem len_insK (keys : List Int) (k : Int) : (insK keys k).length ≤ keys.length + 1 := by
  unfold insK; split <;> simp
theorem len_addKeys (keys ps : List Int) : (addKeys keys ps).length ≤ keys.length + ps.length := by
  induction ps generalizing keys with
  | nil => simp [addKeys]
  | cons p ps ih =>
    show (addKeys (insK keys p) ps).length ≤ _
    have h1 := ih (insK keys p)
    have h2 := len_insK keys p
    simp only [List.length_cons]; (first | lia | omega)
theorem take_next {α : Type} {l : List α} {i : Nat} (h : i < l.length) : l.take (i + 1) = l.take i ++ [l[i]] := by
  rw [List.take_add_one, List.getElem?_eq_getElem h]; rfl
theorem add_spec {k : Int} {ps : List Int} {Q : AV → AH → Prop} {E : Ex → AH → Prop} (S : Srt hp own x d n2i rec suc keys cnt succ .none np nf) (hz : keys.length + ps.length < 999990) (hz2 : ∀ p, (succ p).length + ps.length < 1000000)
    (h : ∀ hp' own' rec' suc', Srt hp' own' x d n2i rec' suc' (addKeys (insK keys k) ps) (setI cnt k (cnt k + ps.length)) (addSucc succ ps k) .none np nf → Frm hp own hp' own' → Q .none hp') :
    fp_add (.ref x :: .int k :: intsA ps) Q E hp := by
  refine ⟨by simp, by simp; (first | lia | omega), fun t ht => ?_⟩
  have S1 := S.ext (Ext.new (.tup (intsA ps)) ht)
  have F1 : Frm hp own (upd hp t (.tup (intsA ps))) own := Frm.of_ext (Ext.new _ ht)
  have ht1 := upd_self hp t (.tup (intsA ps))
  have hto : ¬ own t := fun q => S.al t q ht
  show pt_add _ _ ⟨_, upd hp t (.tup (intsA ps))⟩
  unfold pt_add
  generalize upd hp t (.tup (intsA ps)) = hp1 at S1 F1 ht1
  dsimp only [pName, pInt, pBool, pNone, pBin, pUn, tOf, tNot, tAnd, tOr, pIf, lNil, lCons, lStar, starOf, pList, pTuple, pTruth, pSlice, sAssign, aName, aTuple, aItem, aAttrS, aAttrN, sAugName, sAugItem, sAugS, sAugN, sNil, sSeq, sIf, sRet, sFlow, sExpr, sFor, sWhile, sTry, sRaise, sDel, sPair, sDead, vNil, vCons, vOf, iSeq, iRange, iVals, pBi, pBm, pMeth, pCall, pNewS, pNewN, pWal, pComp, cTest, cEmit, cFor, cLoop, pDict0, pListRange, pIterNext, pNextCall, opNextCall, opSet0, opAdd, opSub, opMul, opDiv, opMod, opNeg, opEq, opNe, opLt, opGt, opGe, opIsN, opIsNotN, opIn, opNotIn, opItem, opSetItem, opAttrS, opSetS, opAttrN, opSetN, opLen, opSum, opMin2, opMax2, opAppend, opExtend, opClear, opPop, opCount, opGet, opAdd', opTuple, opList, opSorted, opDel, iAdd, AObj.fld, AObj.setFld, setvs, retV, noX, Option.map, Option.getD, ↓reduceIte, Bool.false_eq_true, Bool.not_true, Bool.not_false, List.cons_append, List.nil_append]
  refine ⟨.ref x, rfl, d, _, _, S1.hx, S1.hd, rfl, ?_⟩
  dsimp only [pName, pInt, pBool, pNone, pBin, pUn, tOf, tNot, tAnd, tOr, pIf, lNil, lCons, lStar, starOf, pList, pTuple, pTruth, pSlice, sAssign, aName, aTuple, aItem, aAttrS, aAttrN, sAugName, sAugItem, sAugS, sAugN, sNil, sSeq, sIf, sRet, sFlow, sExpr, sFor, sWhile, sTry, sRaise, sDel, sPair, sDead, vNil, vCons, vOf, iSeq, iRange, iVals, pBi, pBm, pMeth, pCall, pNewS, pNewN, pWal, pComp, cTest, cEmit, cFor, cLoop, pDict0, pListRange, pIterNext, pNextCall, opNextCall, opSet0, opAdd, opSub, opMul, opDiv, opMod, opNeg, opEq, opNe, opLt, opGt, opGe, opIsN, opIsNotN, opIn, opNotIn, opItem, opSetItem, opAttrS, opSetS, opAttrN, opSetN, opLen, opSum, opMin2, opMax2, opAppend, opExtend, opClear, opPop, opCount, opGet, opAdd', opTuple, opList, opSorted, opDel, iAdd, AObj.fld, AObj.setFld, setvs, retV, noX, Option.map, Option.getD, ↓reduceIte, Bool.false_eq_true, Bool.not_true, Bool.not_false, List.cons_append, List.nil_append]
  refine ⟨.ref x, rfl, x, ⟨rfl, d, S1.hx, isSd_of S1.hd⟩, .int k, rfl, ?_⟩
  refine get_info S1 (by (first | lia | omega)) fun hp2 own2 rec2 suc2 S2 F2 => ?_
  have hk2 : k ∈ insK keys k := mem_insK.mpr (.inr rfl)
  obtain ⟨dk, ek, qk⟩ := S2.hr k hk2
  obtain ⟨ht2, hto2⟩ := F2 t _ ht1 hto
  refine ⟨_, rfl, dk, _, _, ek, qk, rfl, _, rfl, .inr ⟨_, ht2, ?_⟩⟩
  refine ⟨dk, _, ek, qk, ?_⟩
  have S3 := S2.setc hk2 (cnt k + ps.length) qk (S2.odd hk2 ek)
  have F3 : Frm hp own _ own2 := (F1.trans F2).trans (Frm.set (a := rec2 k) (o := .rcd dk [some (.int k), some (.int (cnt k + ps.length)), some (.ref (suc2 k))]) (S2.orr k hk2))
  have ht3 := upd_at (o := .rcd dk [some (.int k), some (.int (cnt k + ps.length)), some (.ref (suc2 k))]) (ne_obj ht2 ek nofun) ht2
  have hlen : ((intsA ps).length : Int) = ps.length := by simp
  rw [hlen]
  have e3 : ([some (AV.int k), some (AV.int (cnt k)), some (AV.ref (suc2 k))] ++ List.replicate (1 + 1 - [some (AV.int k), some (AV.int (cnt k)), some (AV.ref (suc2 k))].length) none).set 1 (some (.int (cnt k + ps.length))) = [some (.int k), some (.int (cnt k + ps.length)), some (.ref (suc2 k))] := rfl
  rw [e3]
  generalize upd hp2 (rec2 k) (.rcd dk [some (.int k), some (.int (cnt k + ps.length)), some (.ref (suc2 k))]) = hp3 at S3 F3 ht3
  refine ⟨_, rfl, t, rfl, .inr (.inl ⟨_, ht3, ?_⟩)⟩
  refine ⟨fun i σ' => σ'.loc 0 = some (.ref x) ∧ σ'.loc 1 = some (.int k) ∧ σ'.loc 2 = some (.ref t) ∧ ∃ own' rec' suc', Srt σ'.hp own' x d n2i rec' suc' (addKeys (insK keys k) (ps.take i)) (setI cnt k (cnt k + ps.length)) (addSucc succ (ps.take i) k) .none np nf ∧ Frm hp own σ'.hp own' ∧ σ'.hp t = some (.tup (intsA ps)) ∧ ¬ own' t, ?_, ?_⟩
  · refine ⟨rfl, rfl, rfl, own2, rec2, suc2, ?_, F3, ht3, hto2⟩
    have : addSucc succ (ps.take 0) k = succ := by funext p; simp [addSucc]
    rw [this]
    exact S3
  · rintro i ⟨l, g⟩ ⟨h0, h1, h2, own', rec', suc', S', F', ht', hto'⟩
    refine ⟨ht', ?_⟩
    dsimp only at h0 h1 h2 S' F' ht' ⊢
    by_cases hi : i < ps.length
    · have e1 : (intsA ps)[i]? = some (.int ps[i]) := by simp [hi]
      rw [e1]
      refine ⟨.ref x, h0, x, ⟨rfl, d, S'.hx, isSd_of S'.hd⟩, .int ps[i], rfl, ?_⟩
      have hl : (addKeys (insK keys k) (ps.take i)).length < 1000000 := by
        have h1 := len_addKeys (insK keys k) (ps.take i)
        have h2 := len_insK keys k
        have h3 : (ps.take i).length ≤ ps.length := by simp; (first | lia | omega)
        (first | lia | omega)
      refine get_info S' hl fun hp4 own4 rec4 suc4 S4 F4 => ?_
      have hk4 : ps[i] ∈ insK (addKeys (insK keys k) (ps.take i)) ps[i] := mem_insK.mpr (.inr rfl)
      obtain ⟨dk, ek, qk⟩ := S4.hr _ hk4
      have es := S4.hs _ hk4
      refine ⟨_, rfl, dk, _, _, ek, qk, rfl, ?_⟩
      refine ⟨⟨suc4 ps[i], _, rfl, es, rfl⟩, .int k, h1, _, es, ?_, ?_⟩
      · have := hz2 ps[i]
        have h5 := List.count_le_length (a := ps[i]) (l := ps.take i)
        simp [addSucc] at h5 ⊢
        (first | lia | omega)
      · refine ⟨h0, h1, h2, own4, rec4, suc4, ?_, (F'.trans F4).trans (Frm.set (S4.os _ hk4)), ?_, (F4 t _ ht' hto').2⟩
        · have S5 := S4.sets hk4 (addSucc succ (ps.take i) k ps[i] ++ [k])
          have e2 : ps.take (i + 1) = ps.take i ++ [ps[i]] := take_next hi
          have e3 : addKeys (insK keys k) (ps.take (i + 1)) = insK (addKeys (insK keys k) (ps.take i)) ps[i] := by
            rw [e2]; unfold addKeys; rw [List.foldl_append]; rfl
          have e4 : addSucc succ (ps.take (i + 1)) k = setI (addSucc succ (ps.take i) k) ps[i] (addSucc succ (ps.take i) k ps[i] ++ [k]) := by
            funext p
            rw [e2]
            unfold addSucc setI
            by_cases hp : p = ps[i]
            · subst hp
              rw [if_pos rfl, List.count_append, List.count_singleton_self, List.replicate_succ', List.append_assoc]
            · rw [if_neg hp, List.count_append, List.count_singleton, if_neg (by simpa using Ne.symm hp), Nat.add_zero]
          have e5 : intsA (addSucc succ (ps.take i) k ps[i] ++ [k]) = intsA (addSucc succ (ps.take i) k ps[i]) ++ [.int k] := by simp
          rw [e5] at S5
          rw [e3, e4]
          exact S5
        · exact upd_at (ne_obj (F4 t _ ht' hto').1 es nofun) (F4 t _ ht' hto').1
    · have e1 : (intsA ps)[i]? = none := by simp; (first | lia | omega)
      rw [e1]
      have e2 : ps.take i = ps := List.take_of_length_le (by (first | lia | omega))
      rw [e2] at S'
      exact h _ _ _ _ S' F'
end
end
section
structure Fr4 where
  v : Int
  p : Nat
  u : Addr
  I : Addr
structure FH (hp0 hp : AH) (a2 a3 a4 a5 : Addr) (suc : Int → Addr) (L2 L3 : List AV) (T : Int → Bool) (n : Nat) (es : List (Int × AV)) (rs : List Fr4) : Prop where
  ext : Ext hp0 hp
  h2 : hp a2 = some (.list L2)
  h3 : hp a3 = some (.list L3)
  h4 : hp a4 = some (.set T n)
  h5 : ∃ ep, hp a5 = some (.dict es ep)
  nx : ∀ q ∈ rs, hp q.u = some (.next q.I) ∧ hp q.I = some (.iter (suc q.v) q.p) ∧ hp0 q.u = none ∧ hp0 q.I = none
  nd : (rs.map (·.I)).Nodup
  n23 : a2 ≠ a3
  z2 : hp0 a2 = none
  z3 : hp0 a3 = none
  z4 : hp0 a4 = none
  z5 : hp0 a5 = none
section
variable {hp0 hp : AH} {a2 a3 a4 a5 : Addr} {suc : Int → Addr} {L2 L3 : List AV} {T : Int → Bool} {n : Nat} {es : List (Int × AV)} {rs : List Fr4}
theorem FH.set2 (H : FH hp0 hp a2 a3 a4 a5 suc L2 L3 T n es rs) (L : List AV) : FH hp0 (upd hp a2 (.list L)) a2 a3 a4 a5 suc L L3 T n es rs :=
  { H with
    ext := H.ext.into H.z2
    h2 := upd_self ..
    h3 := upd_at (Ne.symm H.n23) H.h3
    h4 := upd_at (ne_obj H.h4 H.h2 nofun) H.h4
    h5 := by obtain ⟨ep, e⟩ := H.h5; exact ⟨ep, upd_at (ne_obj e H.h2 nofun) e⟩
    nx := fun q hq => by obtain ⟨e1, e2, e3⟩ := H.nx q hq; exact ⟨upd_at (ne_obj e1 H.h2 nofun) e1, upd_at (ne_obj e2 H.h2 nofun) e2, e3⟩ }
theorem FH.set3 (H : FH hp0 hp a2 a3 a4 a5 suc L2 L3 T n es rs) (L : List AV) : FH hp0 (upd hp a3 (.list L)) a2 a3 a4 a5 suc L2 L T n es rs :=
  { H with
    ext := H.ext.into H.z3
    h3 := upd_self ..
    h2 := upd_at H.n23 H.h2
    h4 := upd_at (ne_obj H.h4 H.h3 nofun) H.h4
    h5 := by obtain ⟨ep, e⟩ := H.h5; exact ⟨ep, upd_at (ne_obj e H.h3 nofun) e⟩
    nx := fun q hq => by obtain ⟨e1, e2, e3⟩ := H.nx q hq; exact ⟨upd_at (ne_obj e1 H.h3 nofun) e1, upd_at (ne_obj e2 H.h3 nofun) e2, e3⟩ }
theorem FH.set4 (H : FH hp0 hp a2 a3 a4 a5 suc L2 L3 T n es rs) (T' : Int → Bool) (n' : Nat) : FH hp0 (upd hp a4 (.set T' n')) a2 a3 a4 a5 suc L2 L3 T' n' es rs :=
  { H with
    ext := H.ext.into H.z4
    h4 := upd_self ..
    h2 := upd_at (ne_obj H.h2 H.h4 nofun) H.h2
    h3 := upd_at (ne_obj H.h3 H.h4 nofun) H.h3
    h5 := by obtain ⟨ep, e⟩ := H.h5; exact ⟨ep, upd_at (ne_obj e H.h4 nofun) e⟩
    nx := fun q hq => by obtain ⟨e1, e2, e3⟩ := H.nx q hq; exact ⟨upd_at (ne_obj e1 H.h4 nofun) e1, upd_at (ne_obj e2 H.h4 nofun) e2, e3⟩ }
theorem FH.set5 (H : FH hp0 hp a2 a3 a4 a5 suc L2 L3 T n es rs) (es' : List (Int × AV)) (ep' : Nat) : FH hp0 (upd hp a5 (.dict es' ep')) a2 a3 a4 a5 suc L2 L3 T n es' rs := by
  obtain ⟨ep, h5⟩ := H.h5
  exact { H with
    ext := H.ext.into H.z5
    h5 := ⟨ep', upd_self ..⟩
    h2 := upd_at (ne_obj H.h2 h5 nofun) H.h2
    h3 := upd_at (ne_obj H.h3 h5 nofun) H.h3
    h4 := upd_at (ne_obj H.h4 h5 nofun) H.h4
    nx := fun q hq => by obtain ⟨e1, e2, e3⟩ := H.nx q hq; exact ⟨upd_at (ne_obj e1 h5 nofun) e1, upd_at (ne_obj e2 h5 nofun) e2, e3⟩ }
theorem FH.newIter (H : FH hp0 hp a2 a3 a4 a5 suc L2 L3 T n es rs) {I u : Addr} (hIu : I ≠ u) (hI : hp I = none) (hu : hp u = none) (v : Int) :
    FH hp0 (upd (upd hp I (.iter (suc v) 0)) u (.next I)) a2 a3 a4 a5 suc L2 L3 T n es (⟨v, 0, u, I⟩ :: rs) :=
  have k : ∀ {a o}, hp a = some o → upd (upd hp I (.iter (suc v) 0)) u (.next I) a = some o := fun e => upd_at (ne_of e hu) (upd_at (ne_of e hI) e)
  { H with
    ext := fun a o e => k (H.ext a o e)
    h2 := k H.h2
    h3 := k H.h3
    h4 := k H.h4
    h5 := by obtain ⟨ep, e⟩ := H.h5; exact ⟨ep, k e⟩
    nx := fun q hq => by
      rcases List.mem_cons.mp hq with rfl | hq
      · exact ⟨upd_self .., upd_at hIu (upd_self ..), H.ext.none hu, H.ext.none hI⟩
      · obtain ⟨e1, e2, e3⟩ := H.nx q hq
        exact ⟨k e1, k e2, e3⟩
    nd := by
      rw [List.map_cons, List.nodup_cons]
      refine ⟨fun hm => ?_, H.nd⟩
      obtain ⟨q, hq, e⟩ := List.mem_map.mp hm
      have := (H.nx q hq).2.1
      rw [e, hI] at this; cases this }
theorem FH.incIter {q : Fr4} (H : FH hp0 hp a2 a3 a4 a5 suc L2 L3 T n es (q :: rs)) : FH hp0 (upd hp q.I (.iter (suc q.v) (q.p + 1))) a2 a3 a4 a5 suc L2 L3 T n es (⟨q.v, q.p + 1, q.u, q.I⟩ :: rs) := by
  obtain ⟨q1, q2, q3, q4⟩ := H.nx q (List.mem_cons_self ..)
  exact { H with
    ext := H.ext.into q4
    h2 := upd_at (ne_obj H.h2 q2 nofun) H.h2
    h3 := upd_at (ne_obj H.h3 q2 nofun) H.h3
    h4 := upd_at (ne_obj H.h4 q2 nofun) H.h4
    h5 := by obtain ⟨ep, e⟩ := H.h5; exact ⟨ep, upd_at (ne_obj e q2 nofun) e⟩
    nd := H.nd
    nx := fun r hr => by
      rcases List.mem_cons.mp hr with rfl | hr
      · exact ⟨upd_at (ne_obj q1 q2 nofun) q1, upd_self .., q3, q4⟩
      · obtain ⟨e1, e2, e3⟩ := H.nx r (List.mem_cons_of_mem _ hr)
        have nd := H.nd
        rw [List.map_cons, List.nodup_cons] at nd
        exact ⟨upd_at (ne_obj e1 q2 nofun) e1, upd_at (fun e => nd.1 (by rw [← e]; exact List.mem_map_of_mem (f := (·.I)) hr)) e2, e3⟩ }
theorem FH.dropIter {q : Fr4} (H : FH hp0 hp a2 a3 a4 a5 suc L2 L3 T n es (q :: rs)) : FH hp0 (fun b => if b = q.I then none else hp b) a2 a3 a4 a5 suc L2 L3 T n es rs := by
  obtain ⟨q1, q2, q3, q4⟩ := H.nx q (List.mem_cons_self ..)
  have k : ∀ {a o}, hp a = some o → a ≠ q.I → (if a = q.I then none else hp a) = some o := fun e n => by rw [if_neg n]; exact e
  have nd := H.nd
  rw [List.map_cons, List.nodup_cons] at nd
  exact { H with
    ext := fun a o e => k (H.ext a o e) (ne_of e q4)
    h2 := k H.h2 (ne_obj H.h2 q2 nofun)
    h3 := k H.h3 (ne_obj H.h3 q2 nofun)
    h4 := k H.h4 (ne_obj H.h4 q2 nofun)
    h5 := by obtain ⟨ep, e⟩ := H.h5; exact ⟨ep, k e (ne_obj e q2 nofun)⟩
    nd := nd.2
    nx := fun r hr => by
      obtain ⟨e1, e2, e3⟩ := H.nx r (List.mem_cons_of_mem _ hr)
      exact ⟨k e1 (ne_obj e1 q2 nofun), k e2 (fun e => nd.1 (by rw [← e]; exact List.mem_map_of_mem (f := (·.I)) hr)), e3⟩ }
end

noncomputable def Chain (succ : Int → List Int) (fin : List Int) : List Fr4 → Int → Prop
  | [], _ => True
  | q :: rs, w => (0 < q.p ∧ (succ q.v)[q.p - 1]? = some w ∧ ∀ j, j < q.p - 1 → ∀ u, (succ q.v)[j]? = some u → u ∈ fin) ∧ Chain succ fin rs q.v
noncomputable def Inner (succ : Int → List Int) (fin : List Int) : List Fr4 → Prop
  | [] => True
  | q :: rs => (∀ j, j < q.p → ∀ u, (succ q.v)[j]? = some u → u ∈ fin) ∧ Chain succ fin rs q.v
theorem Chain.mono {succ : Int → List Int} {fin fin' : List Int} (h : ∀ k ∈ fin, k ∈ fin') : ∀ {rs : List Fr4} {w : Int}, Chain succ fin rs w → Chain succ fin' rs w
  | [], _, _ => trivial
  | _ :: _, _, ⟨⟨a, b, c⟩, d⟩ => ⟨⟨a, b, fun j hj u hu => h _ (c j hj u hu)⟩, Chain.mono h d⟩
inductive TC (succ : Int → List Int) : Int → Int → Prop
  | one {a b : Int} : b ∈ succ a → TC succ a b
  | more {a b c : Int} : TC succ a b → c ∈ succ b → TC succ a c
theorem Chain.tc {succ : Int → List Int} {fin : List Int} {k : Int} : ∀ {rs : List Fr4} {w : Int}, Chain succ fin rs w → k ∈ rs.map (·.v) → TC succ k w
  | [], _, _, h => by cases h
  | q :: rs, w, ⟨⟨a, b, c⟩, d⟩, h => by
    have e : w ∈ succ q.v := List.mem_of_getElem? b
    rcases List.mem_cons.mp h with rfl | h
    · exact .one e
    · exact .more (Chain.tc d h) e
structure FG (keys : List Int) (succ : Int → List Int) (rs : List Fr4) (fin : List Int) : Prop where
  nd : (fin ++ rs.map (·.v)).Nodup
  sub : ∀ k, k ∈ fin ++ rs.map (·.v) → k ∈ keys
  fo : ∀ l1 v l2, fin = l1 ++ v :: l2 → ∀ w ∈ succ v, w ∈ l1
  ps : ∀ q ∈ rs, q.p ≤ (succ q.v).length
theorem sum_sub {f : Int → Nat} : ∀ {l keys : List Int}, l.Nodup → (∀ k ∈ l, k ∈ keys) → (l.map f).sum ≤ (keys.map f).sum
  | [], _, _, _ => by simp
  | a :: l, keys, h, hs => by
    have ha := hs a (List.mem_cons_self ..)
    rw [List.nodup_cons] at h
    have p := List.perm_cons_erase ha
    rw [(p.map f).sum_nat]
    simp only [List.map_cons, List.sum_cons]
    have := sum_sub (f := f) (l := l) (keys := keys.erase a) h.2 fun k hk => (List.mem_erase_of_ne (fun e => h.1 (by rw [← e]; exact hk))).mpr (hs k (List.mem_cons_of_mem _ hk))
    (first | lia | omega)
noncomputable def actA (succ : Int → List Int) (rs : List Fr4) (fin : List Int) : Nat := 2 * fin.length + rs.length + (fin.map fun k => (succ k).length).sum + (rs.map (·.p)).sum
noncomputable def actB (keys : List Int) (succ : Int → List Int) : Nat := 2 * keys.length + (keys.map fun k => (succ k).length).sum
theorem FG.bound {keys : List Int} {succ : Int → List Int} {rs : List Fr4} {fin : List Int} (G : FG keys succ rs fin) : actA succ rs fin ≤ actB keys succ ∧ fin.length + rs.length ≤ keys.length := by
  have h1 := sum_sub (f := fun k => (succ k).length) G.nd G.sub
  have h2 := sum_sub (f := fun _ => 1) G.nd G.sub
  have h3 : ∀ l : List Int, (l.map fun _ => 1).sum = l.length := fun l => by induction l with
    | nil => rfl
    | cons a l ih => simp only [List.map_cons, List.sum_cons, List.length_cons, ih]; (first | lia | omega)
  rw [h3, h3] at h2
  have h4 : ∀ rs : List Fr4, (∀ q ∈ rs, q.p ≤ (succ q.v).length) → (rs.map (·.p)).sum ≤ ((rs.map (·.v)).map fun k => (succ k).length).sum := fun rs h => by
    induction rs with
    | nil => simp
    | cons a l ih =>
      have := ih fun q hq => h q (List.mem_cons_of_mem _ hq)
      have := h a (List.mem_cons_self ..)
      simp only [List.map_cons, List.sum_cons]; (first | lia | omega)
  have h5 := h4 rs G.ps
  rw [List.map_append, List.sum_append] at h1
  simp only [List.length_append, List.length_map] at h2
  unfold actA actB
  (first | lia | omega)
theorem FG.push {keys : List Int} {succ : Int → List Int} {rs : List Fr4} {fin : List Int} (G : FG keys succ rs fin) {v : Int} (hv : v ∈ keys) (h1 : v ∉ fin ++ rs.map (·.v)) (u I : Addr) : FG keys succ (⟨v, 0, u, I⟩ :: rs) fin where
  nd := by
    have := G.nd
    rw [List.map_cons]
    exact (List.perm_middle).nodup_iff.mpr (List.nodup_cons.mpr ⟨h1, this⟩)
  sub := fun k hk => by
    rw [List.map_cons] at hk
    rcases List.mem_cons.mp ((List.perm_middle).mem_iff.mp hk) with rfl | h
    · exact hv
    · exact G.sub k h
  fo := G.fo
  ps := fun q hq => by
    rcases List.mem_cons.mp hq with rfl | h
    · exact Nat.zero_le _
    · exact G.ps q h
theorem FG.inc {keys : List Int} {succ : Int → List Int} {q : Fr4} {rs : List Fr4} {fin : List Int} (G : FG keys succ (q :: rs) fin) (h : q.p < (succ q.v).length) : FG keys succ (⟨q.v, q.p + 1, q.u, q.I⟩ :: rs) fin where
  nd := G.nd
  sub := G.sub
  fo := G.fo
  ps := fun r hr => by
    rcases List.mem_cons.mp hr with rfl | h'
    · exact h
    · exact G.ps r (List.mem_cons_of_mem _ h')
theorem FG.pop {keys : List Int} {succ : Int → List Int} {q : Fr4} {rs : List Fr4} {fin : List Int} (G : FG keys succ (q :: rs) fin) (h : ∀ w ∈ succ q.v, w ∈ fin) : FG keys succ rs (fin ++ [q.v]) where
  nd := by simpa using G.nd
  sub := fun k hk => G.sub k (by simpa using hk)
  fo := fun l1 v l2 e w hw => by
    rcases List.eq_nil_or_concat l2 with rfl | ⟨l3, b, rfl⟩
    · obtain ⟨e1, e2⟩ := List.append_inj' e rfl
      cases e2
      rw [← e1]; exact h w hw
    · rw [List.concat_eq_append, ← List.cons_append, ← List.append_assoc] at e
      obtain ⟨e1, e2⟩ := List.append_inj' e rfl
      exact G.fo l1 v l3 e1 w hw
  ps := fun r hr => G.ps r (List.mem_cons_of_mem _ hr)

noncomputable def idxD (l : List Int) : List (Int × AV) := l.zipIdx.map fun p => (p.1, .int p.2)
structure FI (hp0 : AH) (n2i a2 a3 a4 a5 : Addr) (suc : Int → Addr) (keys : List Int) (succ : Int → List Int) (σ : St) (rs : List Fr4) (fin : List Int) : Prop where
  l1 : σ.loc 1 = some (.ref n2i)
  l2 : σ.loc 2 = some (.ref a2)
  l3 : σ.loc 3 = some (.ref a3)
  l4 : σ.loc 4 = some (.ref a4)
  l5 : σ.loc 5 = some (.ref a5)
  H : ∃ T n, FH hp0 σ.hp a2 a3 a4 a5 suc (intsA (rs.reverse.map (·.v))) (rs.reverse.map fun q => .ref q.u) T n (idxD (rs.reverse.map (·.v))) rs ∧ n ≤ fin.length + rs.length ∧ ∀ k, T k = true ↔ k ∈ fin ++ rs.map (·.v)
  G : FG keys succ rs fin
section
variable {hp : AH} {own : Addr → Prop} {x d n2i : Addr} {rec suc : Int → Addr} {keys : List Int} {cnt : Int → Int} {succ : Int → List Int} {rdy : AV} {np nf : Int}
theorem hasKey_set {σ : St} {c : Addr} {T : Int → Bool} {n : Nat} {x : Int} (h : σ.hp c = some (.set T n)) : hasKey σ c x = some (T x) := by unfold hasKey; rw [h]
theorem hasKey_dict {σ : St} {c : Addr} {es : List (Int × AV)} {n : Nat} {x : Int} (h : σ.hp c = some (.dict es n)) : hasKey σ c x = some (es.any (·.1 == x)) := by unfold hasKey; rw [h]
theorem item_last {σ : St} {c : Addr} {l : List AV} {v : AV} (h : σ.hp c = some (.list (l ++ [v]))) : σ.item c (-1) = some v := by
  unfold St.item; rw [h]
  have : seqIndex? (-1) (l ++ [v]).length = some l.length := by
    have e : (if (-1 : Int) < 0 then (-1 : Int) + ((l ++ [v]).length : Int) else -1) = l.length := by
      rw [if_pos (by decide), List.length_append]; simp only [List.length_cons, List.length_nil]; (first | lia | omega)
    unfold seqIndex?
    simp only [e]
    rw [if_pos (by rw [List.length_append]; simp only [List.length_cons, List.length_nil, Bool.and_eq_true, decide_eq_true_eq]; (first | lia | omega))]
    rfl
  simp only
  rw [this]
  simp
noncomputable def fcInner : SP := (sWhile (tOf (pName 2)) (sTry (sSeq (sAssign (pNextCall (pBin opItem (pName 3) (pUn opNeg (pInt 1)))) (aName 6)) (sFlow .brk)) sNil (sSeq (sDel (pName 5) (pBm "list" opPop (pName 2) lNil)) (sExpr (pBm "list" opPop (pName 3) lNil))) .stop) (sFlow .brk))
noncomputable def fcTop : SP := (sIf (tOf (pBin opIn (pName 6) (pName 4))) (sIf (tOf (pBin opIn (pName 6) (pName 5))) (sRet (pBin opAdd (pSlice (pName 2) (pBin opItem (pName 5) (pName 6)) pNone) (pList (lCons (pName 6) lNil)))) sNil) (sSeq (sExpr (pBm "set" opAdd' (pName 4) (lCons (pName 6) lNil))) (sSeq (sExpr (pBm "list" opAppend (pName 3) (lCons (pIterNext (pUn (opAttrN 2) (pBin opItem (pName 1) (pName 6)))) lNil))) (sSeq (sAssign (pBi opLen (lCons (pName 2) lNil)) (aItem (pName 5) (pName 6))) (sExpr (pBm "list" opAppend (pName 2) (lCons (pName 6) lNil)))))))
noncomputable def fcWhile : SP := (sWhile (tOf (pBool true)) (sSeq fcTop fcInner) sNil)
theorem fc_eq : pt_find_cycle = (sSeq (sAssign (pUn (opAttrS 0) (pName 0)) (aName 1)) (sSeq (sAssign (pList lNil) (aName 2)) (sSeq (sAssign (pList lNil) (aName 3)) (sSeq (sAssign opSet0 (aName 4)) (sSeq (sAssign pDict0 (aName 5)) (sSeq (sFor (iSeq (pName 1)) (aName 6) (sSeq (sIf (tOf (pBin opIn (pName 6) (pName 4))) (sFlow .cont) sNil) fcWhile)) (sRet pNone))))))) := rfl
theorem list_snoc {α β : Type} (f : α → β) (q : α) (rs : List α) : (q :: rs).reverse.map f = rs.reverse.map f ++ [f q] := by simp
theorem lst_of {σ : St} {a : Addr} {l : List AV} (h : σ.hp a = some (.list l)) : σ.lst a = some l := by unfold St.lst; rw [h]
theorem idx_snoc {l : List Int} {k : Int} : idxD (l ++ [k]) = idxD l ++ [(k, .int l.length)] := by
  unfold idxD
  rw [List.zipIdx_append]; simp
theorem idx_any {l : List Int} {k : Int} : (idxD l).any (fun e => e.1 = k) = true ↔ k ∈ l := by
  rw [List.any_eq_true]
  constructor
  · rintro ⟨e, he, hk⟩
    obtain ⟨p, hp, rfl⟩ := List.mem_map.mp he
    have := List.fst_mem_of_mem_zipIdx hp
    simp only [decide_eq_true_eq] at hk
    rw [← hk]; exact this
  · intro h
    obtain ⟨i, hi, e⟩ := List.mem_iff_getElem.mp h
    refine ⟨(k, .int i), List.mem_map.mpr ⟨(k, i), ?_, rfl⟩, by simp⟩
    rw [List.mk_mem_zipIdx_iff_getElem?]
    rw [List.getElem?_eq_getElem hi, e]
theorem idx_filter {l : List Int} {k : Int} (hk : k ∉ l) : (idxD (l ++ [k])).filter (fun e => decide (e.1 ≠ k)) = idxD l := by
  rw [idx_snoc, List.filter_append, List.filter_eq_self.mpr]
  · simp
  · intro e he
    obtain ⟨p, hp, rfl⟩ := List.mem_map.mp he
    have := List.fst_mem_of_mem_zipIdx hp
    simp only [decide_eq_true_eq]
    exact fun q => hk (q ▸ this)
theorem inner_spec {σ : St} {Q : Fl → St → Prop} {E : Ex → St → Prop} {hp0 : AH} {n2i a2 a3 a4 a5 : Addr} {suc : Int → Addr} {keys : List Int} {succ : Int → List Int} {rs : List Fr4} {fin : List Int}
    (hl : ∀ k ∈ keys, hp0 (suc k) = some (.list (intsA (succ k)))) (hsub : ∀ v ∈ keys, ∀ w ∈ succ v, w ∈ keys) (hz : keys.length < 1000)
    (I : FI hp0 n2i a2 a3 a4 a5 suc keys succ σ rs fin) (hin : Inner succ fin rs)
    (h1 : ∀ σ' rs' fin' w, FI hp0 n2i a2 a3 a4 a5 suc keys succ σ' rs' fin' → σ'.loc 6 = some (.int w) → w ∈ keys → Chain succ fin' rs' w → (∀ k, k ∈ fin → k ∈ fin') → (∀ k, k ∈ fin ++ rs.map (·.v) → k ∈ fin' ++ rs'.map (·.v)) → actA succ rs fin < actA succ rs' fin' → Q .next σ')
    (h2 : ∀ σ' fin', FI hp0 n2i a2 a3 a4 a5 suc keys succ σ' [] fin' → (∀ k, k ∈ fin → k ∈ fin') → (∀ k, k ∈ fin ++ rs.map (·.v) → k ∈ fin') → Q .brk σ') :
    fcInner Q E σ := by
  refine ⟨fun m σ' => ∃ rs' fin', FI hp0 n2i a2 a3 a4 a5 suc keys succ σ' rs' fin' ∧ Inner succ fin' rs' ∧ (∀ k, k ∈ fin → k ∈ fin') ∧ (∀ k, k ∈ fin ++ rs.map (·.v) → k ∈ fin' ++ rs'.map (·.v)) ∧ actA succ rs' fin' + m = actB keys succ ∧ actA succ rs fin ≤ actA succ rs' fin', ?_, ?_⟩
  · exact ⟨actB keys succ - actA succ rs fin, rs, fin, I, hin, fun _ h => h, fun _ h => h, by have := I.G.bound.1; (first | lia | omega), Nat.le_refl _⟩
  · rintro m ⟨l, g⟩ ⟨rs', fin', I', hin', hf, hf2, hA, hA2⟩
    obtain ⟨T, n, H, hn, hT⟩ := I'.H
    dsimp only [pName, pInt, pBool, pNone, pBin, pUn, tOf, tNot, tAnd, tOr, pIf, lNil, lCons, lStar, starOf, pList, pTuple, pTruth, pSlice, sAssign, aName, aTuple, aItem, aAttrS, aAttrN, sAugName, sAugItem, sAugS, sAugN, sNil, sSeq, sIf, sRet, sFlow, sExpr, sFor, sWhile, sTry, sRaise, sDel, sPair, sDead, vNil, vCons, vOf, iSeq, iRange, iVals, pBi, pBm, pMeth, pCall, pNewS, pNewN, pWal, pComp, cTest, cEmit, cFor, cLoop, pDict0, pListRange, pIterNext, pNextCall, opNextCall, opSet0, opAdd, opSub, opMul, opDiv, opMod, opNeg, opEq, opNe, opLt, opGt, opGe, opIsN, opIsNotN, opIn, opNotIn, opItem, opSetItem, opAttrS, opSetS, opAttrN, opSetN, opLen, opSum, opMin2, opMax2, opAppend, opExtend, opClear, opPop, opCount, opGet, opAdd', opTuple, opList, opSorted, opDel, iAdd, AObj.fld, AObj.setFld, setvs, retV, noX, Option.map, Option.getD, ↓reduceIte, Bool.false_eq_true, Bool.not_true, Bool.not_false, List.cons_append, List.nil_append]
    refine ⟨_, I'.l2, ?_⟩
    dsimp only [pName, pInt, pBool, pNone, pBin, pUn, tOf, tNot, tAnd, tOr, pIf, lNil, lCons, lStar, starOf, pList, pTuple, pTruth, pSlice, sAssign, aName, aTuple, aItem, aAttrS, aAttrN, sAugName, sAugItem, sAugS, sAugN, sNil, sSeq, sIf, sRet, sFlow, sExpr, sFor, sWhile, sTry, sRaise, sDel, sPair, sDead, vNil, vCons, vOf, iSeq, iRange, iVals, pBi, pBm, pMeth, pCall, pNewS, pNewN, pWal, pComp, cTest, cEmit, cFor, cLoop, pDict0, pListRange, pIterNext, pNextCall, opNextCall, opSet0, opAdd, opSub, opMul, opDiv, opMod, opNeg, opEq, opNe, opLt, opGt, opGe, opIsN, opIsNotN, opIn, opNotIn, opItem, opSetItem, opAttrS, opSetS, opAttrN, opSetN, opLen, opSum, opMin2, opMax2, opAppend, opExtend, opClear, opPop, opCount, opGet, opAdd', opTuple, opList, opSorted, opDel, iAdd, AObj.fld, AObj.setFld, setvs, retV, noX, Option.map, Option.getD, ↓reduceIte, Bool.false_eq_true, Bool.not_true, Bool.not_false, List.cons_append, List.nil_append]
    refine ⟨_, lst_of H.h2, ?_⟩
    cases rs' with
    | nil =>
      rw [if_neg (by simp)]
      exact h2 _ fin' I' hf (by simpa using hf2)
    | cons q rs' =>
      rw [if_pos (by simp)]
      have e3 := H.h3
      rw [list_snoc] at e3
      refine ⟨_, I'.l3, _, item_last e3, ?_⟩
      obtain ⟨q1, q2, q3, q4⟩ := H.nx q (List.mem_cons_self ..)
      have hqk : q.v ∈ keys := I'.G.sub _ (by simp)
      refine ⟨q.I, suc q.v, q.p, _, q1, q2, lst_of (H.ext _ _ (hl _ hqk)), ?_⟩
      by_cases hp : q.p < (succ q.v).length
      · have e1 : (intsA (succ q.v))[q.p]? = some (.int (succ q.v)[q.p]) := by simp [hp]
        rw [e1]
        have Hn := H.incIter
        refine h1 _ (⟨q.v, q.p + 1, q.u, q.I⟩ :: rs') fin' (succ q.v)[q.p] ⟨I'.l1, I'.l2, I'.l3, I'.l4, I'.l5, ⟨T, n, ?_, hn, hT⟩, I'.G.inc hp⟩ rfl (hsub _ hqk _ (List.getElem_mem hp)) ?_ hf hf2 ?_
        · simpa using Hn
        · refine ⟨⟨Nat.succ_pos _, by simp, fun j hj u hu => hin'.1 j (by simpa using hj) u hu⟩, hin'.2⟩
        · refine Nat.lt_of_le_of_lt hA2 ?_
          unfold actA; simp only [List.map_cons, List.sum_cons, List.length_cons]; (first | lia | omega)
      · have e1 : (intsA (succ q.v))[q.p]? = none := by simp; (first | lia | omega)
        rw [e1]
        refine ⟨rfl, ?_⟩
        have Hd := H.dropIter
        have e2 := H.h2
        obtain ⟨ep, e5⟩ := H.h5
        rw [list_snoc, intsA, List.map_append] at e2
        have Hd2 := Hd.set2 (intsA (rs'.reverse.map (·.v)))
        obtain ⟨ep5, e55⟩ := Hd2.h5
        have nd := I'.G.nd
        have hnr : q.v ∉ fin' ++ rs'.map (·.v) := (List.nodup_cons.mp ((List.perm_middle).nodup_iff.mp nd)).1
        have d2 := Hd.h2
        rw [list_snoc, intsA, List.map_append] at d2
        refine ⟨_, I'.l5, _, I'.l2, ⟨a2, _, rfl, Hd.h2, rfl⟩, _, _, d2, ?_⟩
        refine ⟨_, ep5, e55, idx_any.mpr (by simp), fun ep' => ?_⟩
        have Hd3 := Hd2.set5 (idxD (rs'.reverse.map (·.v))) ep'
        have d3 := Hd3.h3
        rw [list_snoc, idx_filter (by intro hm; exact hnr (List.mem_append_right _ (by simpa using hm)))]
        have d33 := d3
        rw [list_snoc] at d33
        refine ⟨_, I'.l3, ⟨a3, _, rfl, d3, rfl⟩, _, _, d33, ?_⟩
        have Hd4 := Hd3.set3 (rs'.reverse.map fun q => .ref q.u)
        have G' := I'.G.pop (fun w hw => by
          obtain ⟨j, hj, e⟩ := List.mem_iff_getElem.mp hw
          exact hin'.1 j (by have := I'.G.ps q (List.mem_cons_self ..); (first | lia | omega)) w (by rw [List.getElem?_eq_getElem hj, e]))
        have hlt : actA succ (q :: rs') fin' < actA succ rs' (fin' ++ [q.v]) := by
          have := I'.G.ps q (List.mem_cons_self ..)
          unfold actA
          simp only [List.map_cons, List.sum_cons, List.length_cons, List.map_append, List.sum_append, List.length_append, List.map_nil, List.sum_nil, List.length_nil]; (first | lia | omega)
        have hb := G'.bound.1
        refine ⟨actB keys succ - actA succ rs' (fin' ++ [q.v]), by (first | lia | omega), rs', fin' ++ [q.v], ⟨I'.l1, I'.l2, I'.l3, I'.l4, I'.l5, ⟨T, n, Hd4, by simpa [Nat.add_assoc, Nat.add_comm 1] using hn, fun k => (hT k).trans (by simp)⟩, G'⟩, ?_, fun k hk => List.mem_append_left _ (hf k hk), fun k hk => by have := hf2 k hk; simpa using this, by (first | lia | omega), by (first | lia | omega)⟩
        obtain ⟨c1, c2⟩ := hin'
        cases rs' with
        | nil => trivial
        | cons r rs'' =>
          obtain ⟨⟨f1, f2, f3⟩, f4⟩ := c2
          refine ⟨fun j hj u hu => ?_, f4.mono fun k hk => List.mem_append_left _ hk⟩
          by_cases ej : j < r.p - 1
          · exact List.mem_append_left _ (f3 j ej u hu)
          · have : j = r.p - 1 := by (first | lia | omega)
            rw [this, f2] at hu
            cases hu
            exact List.mem_append_right _ (List.mem_singleton.mpr rfl)

theorem hasIdx {l : List Int} {k : Int} : (idxD l).any (·.1 == k) = decide (k ∈ l) := by
  rw [Bool.eq_iff_iff, decide_eq_true_eq, ← idx_any]
  simp
theorem idx_find {l : List Int} {k : Int} (h : k ∈ l) : ∃ i : Nat, i < l.length ∧ (idxD l).find? (fun e => e.1 = k) = some (k, .int i) := by
  cases e : (idxD l).find? (fun e => e.1 = k) with
  | none =>
    rw [List.find?_eq_none] at e
    have := idx_any.mpr h
    rw [List.any_eq_true] at this
    obtain ⟨x, hx, hk⟩ := this
    exact absurd hk (e x hx)
  | some p =>
    have h1 := List.find?_some e
    have h2 := List.mem_of_find?_eq_some e
    obtain ⟨q, hq, rfl⟩ := List.mem_map.mp h2
    simp only [decide_eq_true_eq] at h1
    have h3 := List.snd_lt_of_mem_zipIdx hq
    exact ⟨q.2, by (first | lia | omega), by rw [← h1]⟩
theorem item_dict {σ : St} {a : Addr} {es : List (Int × AV)} {ep : Nat} {k : Int} (h : σ.hp a = some (.dict es ep)) : σ.item a k = (es.find? fun e => e.1 = k).map (·.2) := by unfold St.item; rw [h]
theorem Srt.item {σ : St} (S : Srt σ.hp own x d n2i rec suc keys cnt succ rdy np nf) {k : Int} (hk : k ∈ keys) : σ.item n2i k = some (.ref (rec k)) := by
  obtain ⟨ep, en⟩ := S.hn
  rw [item_dict en, find_rec hk]; rfl
theorem while_spec {σ : St} {Q : Fl → St → Prop} {E : Ex → St → Prop} {a2 a3 a4 a5 : Addr} {v : Int} {fin : List Int} (S : Srt hp own x d n2i rec suc keys cnt succ rdy np nf) (hsub : ∀ v ∈ keys, ∀ w ∈ succ v, w ∈ keys) (hz : keys.length < 1000)
    (I : FI hp n2i a2 a3 a4 a5 suc keys succ σ [] fin) (hv : σ.loc 6 = some (.int v)) (hvk : v ∈ keys)
    (h1 : ∀ σ' l c, Ext hp σ'.hp → hp l = none → σ'.hp l = some (.list c) → c ≠ [] → (∃ k ∈ keys, TC succ k k) → Q (.ret (.ref l)) σ')
    (h2 : ∀ σ' fin', FI hp n2i a2 a3 a4 a5 suc keys succ σ' [] fin' → (∀ k, k ∈ fin → k ∈ fin') → v ∈ fin' → Q .next σ') :
    fcWhile Q E σ := by
  refine ⟨fun m σ' => ∃ rs' fin' w, FI hp n2i a2 a3 a4 a5 suc keys succ σ' rs' fin' ∧ σ'.loc 6 = some (.int w) ∧ w ∈ keys ∧ Chain succ fin' rs' w ∧ (∀ k, k ∈ fin → k ∈ fin') ∧ (v ∈ fin' ++ rs'.map (·.v) ∨ w = v) ∧ actA succ rs' fin' + m = actB keys succ, ?_, ?_⟩
  · exact ⟨actB keys succ - actA succ [] fin, [], fin, v, I, hv, hvk, trivial, fun _ h => h, .inr rfl, by have := I.G.bound.1; (first | lia | omega)⟩
  · rintro m ⟨l, g⟩ ⟨rs, fin', w, I', hw, hwk, hch, hf, hv', hA⟩
    obtain ⟨T, n, H, hn, hT⟩ := I'.H
    have S' := S.ext H.ext
    unfold fcTop
    dsimp only [pName, pInt, pBool, pNone, pBin, pUn, tOf, tNot, tAnd, tOr, pIf, lNil, lCons, lStar, starOf, pList, pTuple, pTruth, pSlice, sAssign, aName, aTuple, aItem, aAttrS, aAttrN, sAugName, sAugItem, sAugS, sAugN, sNil, sSeq, sIf, sRet, sFlow, sExpr, sFor, sWhile, sTry, sRaise, sDel, sPair, sDead, vNil, vCons, vOf, iSeq, iRange, iVals, pBi, pBm, pMeth, pCall, pNewS, pNewN, pWal, pComp, cTest, cEmit, cFor, cLoop, pDict0, pListRange, pIterNext, pNextCall, opNextCall, opSet0, opAdd, opSub, opMul, opDiv, opMod, opNeg, opEq, opNe, opLt, opGt, opGe, opIsN, opIsNotN, opIn, opNotIn, opItem, opSetItem, opAttrS, opSetS, opAttrN, opSetN, opLen, opSum, opMin2, opMax2, opAppend, opExtend, opClear, opPop, opCount, opGet, opAdd', opTuple, opList, opSorted, opDel, iAdd, AObj.fld, AObj.setFld, setvs, retV, noX, Option.map, Option.getD, ↓reduceIte, Bool.false_eq_true, Bool.not_true, Bool.not_false, List.cons_append, List.nil_append]
    refine ⟨_, hw, _, I'.l4, ?_⟩
    refine .inr ⟨T w, hasKey_set H.h4, ?_⟩
    dsimp only [pName, pInt, pBool, pNone, pBin, pUn, tOf, tNot, tAnd, tOr, pIf, lNil, lCons, lStar, starOf, pList, pTuple, pTruth, pSlice, sAssign, aName, aTuple, aItem, aAttrS, aAttrN, sAugName, sAugItem, sAugS, sAugN, sNil, sSeq, sIf, sRet, sFlow, sExpr, sFor, sWhile, sTry, sRaise, sDel, sPair, sDead, vNil, vCons, vOf, iSeq, iRange, iVals, pBi, pBm, pMeth, pCall, pNewS, pNewN, pWal, pComp, cTest, cEmit, cFor, cLoop, pDict0, pListRange, pIterNext, pNextCall, opNextCall, opSet0, opAdd, opSub, opMul, opDiv, opMod, opNeg, opEq, opNe, opLt, opGt, opGe, opIsN, opIsNotN, opIn, opNotIn, opItem, opSetItem, opAttrS, opSetS, opAttrN, opSetN, opLen, opSum, opMin2, opMax2, opAppend, opExtend, opClear, opPop, opCount, opGet, opAdd', opTuple, opList, opSorted, opDel, iAdd, AObj.fld, AObj.setFld, setvs, retV, noX, Option.map, Option.getD, ↓reduceIte, Bool.false_eq_true, Bool.not_true, Bool.not_false, List.cons_append, List.nil_append]
    by_cases hs : T w = true
    · rw [if_pos hs]
      have hs' := (hT w).mp hs
      obtain ⟨ep5, e5⟩ := H.h5
      refine ⟨_, hw, _, I'.l5, .inr ⟨_, hasKey_dict e5, ?_⟩⟩
      rw [hasIdx]
      dsimp only [pName, pInt, pBool, pNone, pBin, pUn, tOf, tNot, tAnd, tOr, pIf, lNil, lCons, lStar, starOf, pList, pTuple, pTruth, pSlice, sAssign, aName, aTuple, aItem, aAttrS, aAttrN, sAugName, sAugItem, sAugS, sAugN, sNil, sSeq, sIf, sRet, sFlow, sExpr, sFor, sWhile, sTry, sRaise, sDel, sPair, sDead, vNil, vCons, vOf, iSeq, iRange, iVals, pBi, pBm, pMeth, pCall, pNewS, pNewN, pWal, pComp, cTest, cEmit, cFor, cLoop, pDict0, pListRange, pIterNext, pNextCall, opNextCall, opSet0, opAdd, opSub, opMul, opDiv, opMod, opNeg, opEq, opNe, opLt, opGt, opGe, opIsN, opIsNotN, opIn, opNotIn, opItem, opSetItem, opAttrS, opSetS, opAttrN, opSetN, opLen, opSum, opMin2, opMax2, opAppend, opExtend, opClear, opPop, opCount, opGet, opAdd', opTuple, opList, opSorted, opDel, iAdd, AObj.fld, AObj.setFld, setvs, retV, noX, Option.map, Option.getD, ↓reduceIte, Bool.false_eq_true, Bool.not_true, Bool.not_false, List.cons_append, List.nil_append]
      by_cases hr : w ∈ rs.reverse.map (·.v)
      · rw [if_pos (by simpa using hr)]
        obtain ⟨i, hi, ei⟩ := idx_find hr
        refine ⟨_, I'.l2, _, I'.l5, _, hw, .int i, by rw [item_dict e5, ei]; rfl, a2, some i, none, _, rfl, rfl, rfl, lst_of H.h2, fun b hb => ?_⟩
        refine ⟨.int w, hw, by simp, fun c hc => ?_⟩
        refine ⟨_, _, lst_of (upd_at (ne_of (upd_self ..) hc) (upd_self ..)), lst_of (upd_self ..), ?_, fun a ha => ?_⟩
        · unfold pickA
          have h1 := I'.G.bound.2
          simp only [List.length_take, List.length_drop, List.length_map, List.length_reverse, List.length_cons, List.length_nil]
          (first | lia | omega)
        · have x1 := H.ext.trans ((Ext.new (.list (pickA (intsA (rs.reverse.map (·.v))) (some (i : Int)) none)) hb).trans (Ext.new (.list [.int w]) hc))
          refine h1 _ a _ (x1.trans (Ext.new _ ha)) (x1.none ha) (upd_self ..) (by simp) ⟨w, hwk, hch.tc (by simpa using hr)⟩
      · rw [if_neg (by simpa using hr)]
        have hwf : w ∈ fin' := by
          rcases List.mem_append.mp hs' with h | h
          · exact h
          · exact absurd (by simpa using h) hr
        refine inner_spec S.hs hsub hz I' ?_ ?_ ?_
        · cases rs with
          | nil => trivial
          | cons r rs' =>
            obtain ⟨⟨f1, f2, f3⟩, f4⟩ := hch
            refine ⟨fun j hj u hu => ?_, f4⟩
            by_cases ej : j < r.p - 1
            · exact f3 j ej u hu
            · have : j = r.p - 1 := by (first | lia | omega)
              rw [this, f2] at hu
              cases hu
              exact hwf
        · intro σ2 rs2 fin2 w2 I2 hw2 hwk2 hch2 hf2 hf3 hA2
          have := I2.G.bound.1
          refine ⟨actB keys succ - actA succ rs2 fin2, by (first | lia | omega), rs2, fin2, w2, I2, hw2, hwk2, hch2, fun k hk => hf2 k (hf k hk), .inl (hf3 v ?_), by (first | lia | omega)⟩
          rcases hv' with h | h
          · exact h
          · rw [← h]; exact List.mem_append_left _ hwf
        · intro σ2 fin2 I2 hf2 hf3
          refine h2 _ fin2 I2 (fun k hk => hf2 k (hf k hk)) (hf3 v ?_)
          rcases hv' with h | h
          · exact h
          · rw [← h]; exact List.mem_append_left _ hwf
    · rw [if_neg hs]
      have hs' : w ∉ fin' ++ rs.map (·.v) := fun h => hs ((hT w).mpr h)
      have hb := I'.G.bound
      refine ⟨_, I'.l4, ⟨a4, _, rfl, H.h4, rfl⟩, _, hw, T, n, H.h4, by (first | lia | omega), ?_⟩
      have H1 := H.set4 (fun k' => T k' || decide (k' = w)) (if T w = true then n else n + 1)
      have S1 := S.ext H1.ext
      obtain ⟨dk, ek, qk⟩ := S1.hr w hwk
      refine ⟨_, I'.l3, ⟨a3, _, rfl, H1.h3, rfl⟩, _, I'.l1, _, hw, _, S1.item hwk, dk, _, _, ek, qk, rfl, _, _, rfl, lst_of (S1.hs w hwk), fun Ia ua hIu hI hu => ?_⟩
      have H2 := H1.newIter hIu hI hu w
      refine ⟨_, H2.h3, ?_, ?_⟩
      · simp only [List.length_map, List.length_reverse]; (first | lia | omega)
      have H3 := H2.set3 (rs.reverse.map (fun q => .ref q.u) ++ [.ref ua])
      obtain ⟨ep5, e5⟩ := H3.h5
      refine ⟨_, I'.l2, .inl ⟨_, lst_of H3.h2, _, I'.l5, _, hw, .inr ⟨_, ep5, e5, ?_, fun ep' => ?_⟩⟩⟩
      · simp only [idxD, List.length_map, List.length_zipIdx, List.length_reverse]; (first | lia | omega)
      have e6 : storedA (idxD (rs.reverse.map (·.v))) w (.int ((intsA (rs.reverse.map (·.v))).length)) = idxD (rs.reverse.map (·.v) ++ [w]) := by
        unfold storedA
        rw [if_neg (by rw [idx_any]; intro hm; exact hs' (List.mem_append_right _ (by simpa using hm))), idx_snoc]
        simp
      rw [e6]
      have H4 := H3.set5 (idxD (rs.reverse.map (·.v) ++ [w])) ep'
      refine ⟨_, I'.l2, ⟨a2, _, rfl, H4.h2, rfl⟩, _, hw, _, H4.h2, ?_, ?_⟩
      · simp only [List.length_map, List.length_reverse]; (first | lia | omega)
      have H5 := H4.set2 (intsA (rs.reverse.map (·.v)) ++ [.int w])
      have G' := I'.G.push hwk hs' ua Ia
      have hA' : actA succ (⟨w, 0, ua, Ia⟩ :: rs) fin' = actA succ rs fin' + 1 := by
        unfold actA; simp only [List.map_cons, List.sum_cons, List.length_cons]; (first | lia | omega)
      refine inner_spec (rs := ⟨w, 0, ua, Ia⟩ :: rs) (fin := fin') S.hs hsub hz ⟨I'.l1, I'.l2, I'.l3, I'.l4, I'.l5, ⟨fun k' => T k' || decide (k' = w), if T w = true then n else n + 1, ?_, ?_, ?_⟩, G'⟩ ⟨fun j hj => absurd hj (Nat.not_lt_zero _), hch⟩ ?_ ?_
      · have e7 : intsA (rs.reverse.map (·.v) ++ [w]) = intsA (rs.reverse.map (·.v)) ++ [.int w] := by simp
        rw [list_snoc, list_snoc, e7]
        exact H5
      · rw [if_neg hs]; simp only [List.length_cons]; (first | lia | omega)
      · intro k
        rw [Bool.or_eq_true, hT, decide_eq_true_eq]
        simp only [List.mem_append, List.map_cons, List.mem_cons]
        constructor
        · rintro ((h | h) | h)
          · exact .inl h
          · exact .inr (.inr h)
          · exact .inr (.inl h)
        · rintro (h | h | h)
          · exact .inl (.inl h)
          · exact .inr h
          · exact .inl (.inr h)
      · intro σ2 rs2 fin2 w2 I2 hw2 hwk2 hch2 hf2 hf3 hA2
        have := I2.G.bound.1
        refine ⟨actB keys succ - actA succ rs2 fin2, by (first | lia | omega), rs2, fin2, w2, I2, hw2, hwk2, hch2, fun k hk => hf2 k (hf k hk), .inl (hf3 v ?_), by (first | lia | omega)⟩
        rcases hv' with h | h
        · rcases List.mem_append.mp h with h | h
          · exact List.mem_append_left _ h
          · exact List.mem_append_right _ (List.mem_cons_of_mem _ h)
        · rw [← h]; exact List.mem_append_right _ (List.mem_cons_self ..)
      · intro σ2 fin2 I2 hf2 hf3
        refine h2 _ fin2 I2 (fun k hk => hf2 k (hf k hk)) (hf3 v ?_)
        rcases hv' with h | h
        · rcases List.mem_append.mp h with h | h
          · exact List.mem_append_left _ h
          · exact List.mem_append_right _ (List.mem_cons_of_mem _ h)
        · rw [← h]; exact List.mem_append_right _ (List.mem_cons_self ..)

theorem rank_of {fin : List Int} (hnd : fin.Nodup) (hall : ∀ k ∈ keys, k ∈ fin) (fo : ∀ l1 v l2, fin = l1 ++ v :: l2 → ∀ w ∈ succ v, w ∈ l1) : ∃ r : Int → Nat, ∀ v ∈ keys, ∀ w ∈ succ v, r w < r v := by
  refine ⟨fun k => fin.idxOf k, fun v hv w hw => ?_⟩
  obtain ⟨l1, l2, e⟩ := List.append_of_mem (hall v hv)
  have h1 := fo l1 v l2 e w hw
  subst e
  have nv : v ∉ l1 := by
    rw [List.nodup_append] at hnd
    exact fun h => hnd.2.2 v h v (List.mem_cons_self ..) rfl
  show List.idxOf w (l1 ++ v :: l2) < List.idxOf v (l1 ++ v :: l2)
  rw [List.idxOf_append, List.idxOf_append, if_pos h1, if_neg nv]
  have := List.idxOf_lt_length_of_mem h1
  (first | lia | omega)
theorem cycle_spec {Q : AV → AH → Prop} {E : Ex → AH → Prop} (S : Srt hp own x d n2i rec suc keys cnt succ rdy np nf) (hsub : ∀ v ∈ keys, ∀ w ∈ succ v, w ∈ keys) (hz : keys.length < 1000)
    (h0 : ∀ hp', Ext hp hp' → (∃ r : Int → Nat, ∀ v ∈ keys, ∀ w ∈ succ v, r w < r v) → Q .none hp')
    (h1 : ∀ hp' l c, Ext hp hp' → hp l = none → hp' l = some (.list c) → c ≠ [] → (∃ k ∈ keys, TC succ k k) → Q (.ref l) hp') :
    fp_find_cycle [.ref x] Q E hp := by
  refine ⟨rfl, ?_⟩
  obtain ⟨ep, en⟩ := S.hn
  rw [fc_eq]
  dsimp only [pName, pInt, pBool, pNone, pBin, pUn, tOf, tNot, tAnd, tOr, pIf, lNil, lCons, lStar, starOf, pList, pTuple, pTruth, pSlice, sAssign, aName, aTuple, aItem, aAttrS, aAttrN, sAugName, sAugItem, sAugS, sAugN, sNil, sSeq, sIf, sRet, sFlow, sExpr, sFor, sWhile, sTry, sRaise, sDel, sPair, sDead, vNil, vCons, vOf, iSeq, iRange, iVals, pBi, pBm, pMeth, pCall, pNewS, pNewN, pWal, pComp, cTest, cEmit, cFor, cLoop, pDict0, pListRange, pIterNext, pNextCall, opNextCall, opSet0, opAdd, opSub, opMul, opDiv, opMod, opNeg, opEq, opNe, opLt, opGt, opGe, opIsN, opIsNotN, opIn, opNotIn, opItem, opSetItem, opAttrS, opSetS, opAttrN, opSetN, opLen, opSum, opMin2, opMax2, opAppend, opExtend, opClear, opPop, opCount, opGet, opAdd', opTuple, opList, opSorted, opDel, iAdd, AObj.fld, AObj.setFld, setvs, retV, noX, Option.map, Option.getD, ↓reduceIte, Bool.false_eq_true, Bool.not_true, Bool.not_false, List.cons_append, List.nil_append]
  refine ⟨.ref x, rfl, d, _, _, S.hx, S.hd, rfl, ?_⟩
  dsimp only [pName, pInt, pBool, pNone, pBin, pUn, tOf, tNot, tAnd, tOr, pIf, lNil, lCons, lStar, starOf, pList, pTuple, pTruth, pSlice, sAssign, aName, aTuple, aItem, aAttrS, aAttrN, sAugName, sAugItem, sAugS, sAugN, sNil, sSeq, sIf, sRet, sFlow, sExpr, sFor, sWhile, sTry, sRaise, sDel, sPair, sDead, vNil, vCons, vOf, iSeq, iRange, iVals, pBi, pBm, pMeth, pCall, pNewS, pNewN, pWal, pComp, cTest, cEmit, cFor, cLoop, pDict0, pListRange, pIterNext, pNextCall, opNextCall, opSet0, opAdd, opSub, opMul, opDiv, opMod, opNeg, opEq, opNe, opLt, opGt, opGe, opIsN, opIsNotN, opIn, opNotIn, opItem, opSetItem, opAttrS, opSetS, opAttrN, opSetN, opLen, opSum, opMin2, opMax2, opAppend, opExtend, opClear, opPop, opCount, opGet, opAdd', opTuple, opList, opSorted, opDel, iAdd, AObj.fld, AObj.setFld, setvs, retV, noX, Option.map, Option.getD, ↓reduceIte, Bool.false_eq_true, Bool.not_true, Bool.not_false, List.cons_append, List.nil_append]
  refine ⟨by decide, fun a2 z2 => ⟨by decide, fun a3 z3 => fun a4 z4 a5 ep5 z5 => ?_⟩⟩
  have H : FH hp (upd (upd (upd (upd hp a2 (.list [])) a3 (.list [])) a4 (.set (fun _ => false) 0)) a5 (.dict [] ep5)) a2 a3 a4 a5 suc [] [] (fun _ => false) 0 [] [] := by
    have x2 : Ext hp (upd hp a2 (.list [])) := Ext.new _ z2
    have x3 := x2.trans (Ext.new (.list []) z3)
    have x4 := x3.trans (Ext.new (.set (fun _ => false) 0) z4)
    have x5 := x4.trans (Ext.new (.dict [] ep5) z5)
    have e2 := Ext.new (.dict [] ep5) z5 _ _ (Ext.new (.set (fun _ => false) 0) z4 _ _ (Ext.new (.list []) z3 _ _ (upd_self hp a2 (.list []))))
    have e3 := Ext.new (.dict [] ep5) z5 _ _ (Ext.new (.set (fun _ => false) 0) z4 _ _ (upd_self _ a3 (.list [])))
    exact { ext := x5, h2 := e2, h3 := e3, h4 := Ext.new (.dict [] ep5) z5 _ _ (upd_self ..), h5 := ⟨ep5, upd_self ..⟩, nx := nofun, nd := List.nodup_nil, n23 := ne_of (upd_self ..) z3, z2 := z2, z3 := x2.none z3, z4 := x3.none z4, z5 := x4.none z5 }
  generalize upd (upd (upd (upd hp a2 (.list [])) a3 (.list [])) a4 (.set (fun _ => false) 0)) a5 (.dict [] ep5) = hp1 at H
  clear z2 z3 z4 z5
  refine ⟨_, rfl, n2i, rfl, .inr (.inr ⟨_, ep, H.ext _ _ en, ?_⟩)⟩
  refine ⟨fun i σ => ∃ fin, FI hp n2i a2 a3 a4 a5 suc keys succ σ [] fin ∧ ∀ k ∈ keys.take i, k ∈ fin, ?_, ?_⟩
  · refine ⟨[], ⟨rfl, rfl, rfl, rfl, rfl, ⟨_, _, H, Nat.le_refl _, by simp⟩, ⟨by simp, by simp, by simp, by simp⟩⟩, by simp⟩
  · rintro i ⟨l, g⟩ ⟨fin, I, hk⟩
    have hK : (keys.map fun k => (k, AV.ref (rec k))).map (·.1) = keys := by rw [List.map_map]; exact List.map_id keys
    obtain ⟨T, n, H', hn, hT⟩ := I.H
    refine ⟨H'.ext _ _ en, ?_⟩
    rw [hK]
    by_cases hi : i < keys.length
    · have e1 : (intsA keys)[i]? = some (.int keys[i]) := by simp [hi]
      rw [e1]
      dsimp only [pName, pInt, pBool, pNone, pBin, pUn, tOf, tNot, tAnd, tOr, pIf, lNil, lCons, lStar, starOf, pList, pTuple, pTruth, pSlice, sAssign, aName, aTuple, aItem, aAttrS, aAttrN, sAugName, sAugItem, sAugS, sAugN, sNil, sSeq, sIf, sRet, sFlow, sExpr, sFor, sWhile, sTry, sRaise, sDel, sPair, sDead, vNil, vCons, vOf, iSeq, iRange, iVals, pBi, pBm, pMeth, pCall, pNewS, pNewN, pWal, pComp, cTest, cEmit, cFor, cLoop, pDict0, pListRange, pIterNext, pNextCall, opNextCall, opSet0, opAdd, opSub, opMul, opDiv, opMod, opNeg, opEq, opNe, opLt, opGt, opGe, opIsN, opIsNotN, opIn, opNotIn, opItem, opSetItem, opAttrS, opSetS, opAttrN, opSetN, opLen, opSum, opMin2, opMax2, opAppend, opExtend, opClear, opPop, opCount, opGet, opAdd', opTuple, opList, opSorted, opDel, iAdd, AObj.fld, AObj.setFld, setvs, retV, noX, Option.map, Option.getD, ↓reduceIte, Bool.false_eq_true, Bool.not_true, Bool.not_false, List.cons_append, List.nil_append]
      refine ⟨_, rfl, _, I.l4, ?_⟩
      dsimp only [pName, pInt, pBool, pNone, pBin, pUn, tOf, tNot, tAnd, tOr, pIf, lNil, lCons, lStar, starOf, pList, pTuple, pTruth, pSlice, sAssign, aName, aTuple, aItem, aAttrS, aAttrN, sAugName, sAugItem, sAugS, sAugN, sNil, sSeq, sIf, sRet, sFlow, sExpr, sFor, sWhile, sTry, sRaise, sDel, sPair, sDead, vNil, vCons, vOf, iSeq, iRange, iVals, pBi, pBm, pMeth, pCall, pNewS, pNewN, pWal, pComp, cTest, cEmit, cFor, cLoop, pDict0, pListRange, pIterNext, pNextCall, opNextCall, opSet0, opAdd, opSub, opMul, opDiv, opMod, opNeg, opEq, opNe, opLt, opGt, opGe, opIsN, opIsNotN, opIn, opNotIn, opItem, opSetItem, opAttrS, opSetS, opAttrN, opSetN, opLen, opSum, opMin2, opMax2, opAppend, opExtend, opClear, opPop, opCount, opGet, opAdd', opTuple, opList, opSorted, opDel, iAdd, AObj.fld, AObj.setFld, setvs, retV, noX, Option.map, Option.getD, ↓reduceIte, Bool.false_eq_true, Bool.not_true, Bool.not_false, List.cons_append, List.nil_append]
      refine .inr ⟨T keys[i], hasKey_set H'.h4, ?_⟩
      have I' : FI hp n2i a2 a3 a4 a5 suc keys succ ⟨setv l 6 (.int keys[i]), g⟩ [] fin := ⟨I.l1, I.l2, I.l3, I.l4, I.l5, I.H, I.G⟩
      by_cases hs : T keys[i] = true
      · rw [if_pos hs]
        refine ⟨fin, I', fun k hk' => ?_⟩
        rw [take_next hi] at hk'
        rcases List.mem_append.mp hk' with h | h
        · exact hk k h
        · rw [List.mem_singleton.mp h]; simpa using (hT _).mp hs
      · rw [if_neg hs]
        refine while_spec S hsub hz I' rfl (List.getElem_mem hi) ?_ ?_
        · intro σ' l c x1 x2 x3 x4 x5
          exact h1 _ l c x1 x2 x3 x4 x5
        · intro σ' fin' I2 hf hv
          refine ⟨fin', I2, fun k hk' => ?_⟩
          rw [take_next hi] at hk'
          rcases List.mem_append.mp hk' with h | h
          · exact hf k (hk k h)
          · rw [List.mem_singleton.mp h]; exact hv
    · have e1 : (intsA keys)[i]? = none := by simp; (first | lia | omega)
      rw [e1]
      refine h0 _ H'.ext (rank_of (by simpa using I.G.nd) (fun k hk' => hk k (by rw [List.take_of_length_le (by (first | lia | omega))]; exact hk')) I.G.fo)
end
end
section
noncomputable def ind (keys : List Int) (succ : Int → List Int) (don : Int → Bool) (k : Int) : Nat := (keys.map fun v => if don v then 0 else (succ v).count k).sum
theorem sum_off {f : Int → Nat} {v : Int} : ∀ {keys : List Int}, keys.Nodup → v ∈ keys → (keys.map f).sum = (keys.map fun u => if u = v then 0 else f u).sum + f v
  | [], _, h => by cases h
  | a :: l, hn, h => by
    rw [List.nodup_cons] at hn
    simp only [List.map_cons, List.sum_cons]
    by_cases e : a = v
    · subst e
      have : (l.map fun u => if u = a then 0 else f u) = l.map f := List.map_congr_left fun u hu => if_neg fun q => hn.1 (by rw [← q]; exact hu)
      rw [this, if_pos rfl]; (first | lia | omega)
    · rw [if_neg e]
      have hv : v ∈ l := by rcases List.mem_cons.mp h with q | q; exact absurd q.symm e; exact q
      have := sum_off (f := f) hn.2 hv
      (first | lia | omega)
noncomputable def setB (f : Int → Bool) (k : Int) (b : Bool) : Int → Bool := fun j => if j = k then b else f j
theorem ind_done {keys : List Int} {succ : Int → List Int} {don : Int → Bool} {v k : Int} (hn : keys.Nodup) (hv : v ∈ keys) (hd : don v = false) : ind keys succ don k = ind keys succ (setB don v true) k + (succ v).count k := by
  unfold ind
  rw [sum_off hn hv, hd]
  simp only [Bool.false_eq_true, if_false]
  congr 2
  refine List.map_congr_left fun u _ => ?_
  unfold setB
  by_cases e : u = v
  · rw [if_pos e, if_pos e]; rfl
  · rw [if_neg e, if_neg e]
theorem sum_ge {f : Int → Nat} {v : Int} {keys : List Int} (hv : v ∈ keys) : f v ≤ (keys.map f).sum := by
  induction keys with
  | nil => cases hv
  | cons a l ih =>
    simp only [List.map_cons, List.sum_cons]
    rcases List.mem_cons.mp hv with rfl | h
    · (first | lia | omega)
    · have := ih h; (first | lia | omega)
theorem ind_zero {keys : List Int} {succ : Int → List Int} {don : Int → Bool} {k : Int} : ind keys succ don k = 0 ↔ ∀ v ∈ keys, k ∈ succ v → don v = true := by
  unfold ind
  rw [List.sum_eq_zero_iff_forall_eq_nat]
  constructor
  · intro h v hv hk
    have := h _ (List.mem_map_of_mem hv)
    cases e : don v with
    | true => rfl
    | false =>
      rw [e] at this
      simp only [Bool.false_eq_true, if_false, List.count_eq_zero] at this
      exact absurd hk this
  · intro h n hn
    obtain ⟨v, hv, rfl⟩ := List.mem_map.mp hn
    cases e : don v with
    | true => rfl
    | false =>
      simp only [Bool.false_eq_true, if_false, List.count_eq_zero]
      intro hk
      rw [h v hv hk] at e; cases e
noncomputable def cntOf (keys : List Int) (succ : Int → List Int) (don out : Int → Bool) (k : Int) : Int := if don k then -2 else if out k then -1 else ind keys succ don k
structure Run (hp : AH) (own : Addr → Prop) (x d n2i : Addr) (rec suc : Int → Addr) (keys : List Int) (succ : Int → List Int) (don out : Int → Bool) (rl : Addr) (R : List Int) : Prop where
  S : Srt hp own x d n2i rec suc keys (cntOf keys succ don out) succ (.ref rl) (keys.countP fun k => don k || out k) (keys.countP don)
  hrl : hp rl = some (.list (intsA R))
  orl : own rl
  nrl : ∀ k ∈ keys, suc k ≠ rl
  nd : R.Nodup
  mem : ∀ k, k ∈ R ↔ k ∈ keys ∧ don k = false ∧ out k = false ∧ ind keys succ don k = 0
  ko : ∀ k, out k = true → k ∈ keys ∧ don k = false ∧ ind keys succ don k = 0
  kd : ∀ k, don k = true → k ∈ keys ∧ ind keys succ don k = 0
  sub : ∀ v ∈ keys, ∀ w ∈ succ v, w ∈ keys
  small : keys.length < 1000
theorem ready_list {keys : List Int} {p : Int → Bool} : ∀ i, (keys.take (i + 1)).filter p = (keys.take i).filter p ++ (match keys[i]? with | some k => if p k then [k] else [] | none => []) := fun i => by
  cases e : keys[i]? with
  | none =>
    have : keys.length ≤ i := by simpa using e
    rw [List.take_of_length_le this, List.take_of_length_le (by (first | lia | omega))]; simp
  | some k =>
    obtain ⟨h, rfl⟩ := List.getElem?_eq_some_iff.mp e
    rw [take_next h, List.filter_append]
    congr 1
    by_cases q : p keys[i] = true
    · simp [q]
    · simp [q]
section
variable {hp : AH} {own : Addr → Prop} {x d n2i : Addr} {rec suc : Int → Addr} {keys : List Int} {cnt : Int → Int} {succ : Int → List Int} {rdy : AV} {np nf : Int}
noncomputable def fcPrep : SP := (sIf (tOf (pName 1)) (sRaise .cycle (vCons vNil (vCons (vOf (pName 1)) vNil))) sNil)
theorem prep_eq : pt_prepare = (sSeq (sIf (tOf (pBin opIsNotN (pUn (opAttrS 1) (pName 0)) pNone)) sDead sNil) (sSeq (sAssign (pComp [none] (iVals (pUn (opAttrS 0) (pName 0))) (aName 0) (cTest (some (tOf (pBin opEq (pUn (opAttrN 1) (pName 0)) (pInt 0)))) (cEmit (pUn (opAttrN 0) (pName 0))))) (aAttrS 1 (pName 0))) (sSeq (sAssign (pMeth (pName 0) fp_find_cycle lNil) (aName 1)) fcPrep))) := rfl
theorem prep_spec {Q : AV → AH → Prop} {E : Ex → AH → Prop} (S : Srt hp own x d n2i rec suc keys cnt succ .none 0 0) (hc : ∀ k ∈ keys, cnt k = ind keys succ (fun _ => false) k) (hsub : ∀ v ∈ keys, ∀ w ∈ succ v, w ∈ keys) (hz : keys.length < 1000)
    (h0 : ∀ hp' own' rl R, Run hp' own' x d n2i rec suc keys succ (fun _ => false) (fun _ => false) rl R → Frm hp own hp' own' → (∃ r : Int → Nat, ∀ v ∈ keys, ∀ w ∈ succ v, r w < r v) → Q .none hp')
    (h1 : ∀ hp' own' rl R, Run hp' own' x d n2i rec suc keys succ (fun _ => false) (fun _ => false) rl R → Frm hp own hp' own' → (∃ k ∈ keys, TC succ k k) → E .cycle hp') :
    fp_prepare [.ref x] Q E hp := by
  refine ⟨rfl, ?_⟩
  obtain ⟨ep, en⟩ := S.hn
  rw [prep_eq]
  dsimp only [pName, pInt, pBool, pNone, pBin, pUn, tOf, tNot, tAnd, tOr, pIf, lNil, lCons, lStar, starOf, pList, pTuple, pTruth, pSlice, sAssign, aName, aTuple, aItem, aAttrS, aAttrN, sAugName, sAugItem, sAugS, sAugN, sNil, sSeq, sIf, sRet, sFlow, sExpr, sFor, sWhile, sTry, sRaise, sDel, sPair, sDead, vNil, vCons, vOf, iSeq, iRange, iVals, pBi, pBm, pMeth, pCall, pNewS, pNewN, pWal, pComp, cTest, cEmit, cFor, cLoop, pDict0, pListRange, pIterNext, pNextCall, opNextCall, opSet0, opAdd, opSub, opMul, opDiv, opMod, opNeg, opEq, opNe, opLt, opGt, opGe, opIsN, opIsNotN, opIn, opNotIn, opItem, opSetItem, opAttrS, opSetS, opAttrN, opSetN, opLen, opSum, opMin2, opMax2, opAppend, opExtend, opClear, opPop, opCount, opGet, opAdd', opTuple, opList, opSorted, opDel, iAdd, AObj.fld, AObj.setFld, setvs, retV, noX, Option.map, Option.getD, ↓reduceIte, Bool.false_eq_true, Bool.not_true, Bool.not_false, List.cons_append, List.nil_append]
  refine ⟨.ref x, rfl, d, _, _, S.hx, S.hd, rfl, ?_⟩
  dsimp only [pName, pInt, pBool, pNone, pBin, pUn, tOf, tNot, tAnd, tOr, pIf, lNil, lCons, lStar, starOf, pList, pTuple, pTruth, pSlice, sAssign, aName, aTuple, aItem, aAttrS, aAttrN, sAugName, sAugItem, sAugS, sAugN, sNil, sSeq, sIf, sRet, sFlow, sExpr, sFor, sWhile, sTry, sRaise, sDel, sPair, sDead, vNil, vCons, vOf, iSeq, iRange, iVals, pBi, pBm, pMeth, pCall, pNewS, pNewN, pWal, pComp, cTest, cEmit, cFor, cLoop, pDict0, pListRange, pIterNext, pNextCall, opNextCall, opSet0, opAdd, opSub, opMul, opDiv, opMod, opNeg, opEq, opNe, opLt, opGt, opGe, opIsN, opIsNotN, opIn, opNotIn, opItem, opSetItem, opAttrS, opSetS, opAttrN, opSetN, opLen, opSum, opMin2, opMax2, opAppend, opExtend, opClear, opPop, opCount, opGet, opAdd', opTuple, opList, opSorted, opDel, iAdd, AObj.fld, AObj.setFld, setvs, retV, noX, Option.map, Option.getD, ↓reduceIte, Bool.false_eq_true, Bool.not_true, Bool.not_false, List.cons_append, List.nil_append]
  refine ⟨.ref x, rfl, d, _, _, S.hx, S.hd, rfl, n2i, _, ep, rfl, en, ?_⟩
  refine ⟨fun i acc σ => σ.hp = hp ∧ acc = intsA ((keys.take i).filter fun k => cnt k = 0), ⟨rfl, by simp⟩, ?_⟩
  rintro i acc ⟨l, g⟩ ⟨hg, ha⟩
  dsimp only at hg
  subst hg ha
  refine ⟨en, ?_⟩
  have hV : (keys.map fun k => (k, AV.ref (rec k))).map (·.2) = keys.map fun k => AV.ref (rec k) := by rw [List.map_map]; rfl
  rw [hV]
  by_cases hi : i < keys.length
  · have e1 : (keys.map fun k => AV.ref (rec k))[i]? = some (.ref (rec keys[i])) := by simp [hi]
    rw [e1]
    dsimp only [pName, pInt, pBool, pNone, pBin, pUn, tOf, tNot, tAnd, tOr, pIf, lNil, lCons, lStar, starOf, pList, pTuple, pTruth, pSlice, sAssign, aName, aTuple, aItem, aAttrS, aAttrN, sAugName, sAugItem, sAugS, sAugN, sNil, sSeq, sIf, sRet, sFlow, sExpr, sFor, sWhile, sTry, sRaise, sDel, sPair, sDead, vNil, vCons, vOf, iSeq, iRange, iVals, pBi, pBm, pMeth, pCall, pNewS, pNewN, pWal, pComp, cTest, cEmit, cFor, cLoop, pDict0, pListRange, pIterNext, pNextCall, opNextCall, opSet0, opAdd, opSub, opMul, opDiv, opMod, opNeg, opEq, opNe, opLt, opGt, opGe, opIsN, opIsNotN, opIn, opNotIn, opItem, opSetItem, opAttrS, opSetS, opAttrN, opSetN, opLen, opSum, opMin2, opMax2, opAppend, opExtend, opClear, opPop, opCount, opGet, opAdd', opTuple, opList, opSorted, opDel, iAdd, AObj.fld, AObj.setFld, setvs, retV, noX, Option.map, Option.getD, ↓reduceIte, Bool.false_eq_true, Bool.not_true, Bool.not_false, List.cons_append, List.nil_append]
    have hk := List.getElem_mem hi
    obtain ⟨dk, ek, qk⟩ := S.hr _ hk
    refine ⟨_, rfl, dk, _, _, ek, qk, rfl, ?_⟩
    have hr := ready_list (keys := keys) (p := fun k => cnt k = 0) i
    rw [List.getElem?_eq_getElem hi] at hr
    dsimp only [pName, pInt, pBool, pNone, pBin, pUn, tOf, tNot, tAnd, tOr, pIf, lNil, lCons, lStar, starOf, pList, pTuple, pTruth, pSlice, sAssign, aName, aTuple, aItem, aAttrS, aAttrN, sAugName, sAugItem, sAugS, sAugN, sNil, sSeq, sIf, sRet, sFlow, sExpr, sFor, sWhile, sTry, sRaise, sDel, sPair, sDead, vNil, vCons, vOf, iSeq, iRange, iVals, pBi, pBm, pMeth, pCall, pNewS, pNewN, pWal, pComp, cTest, cEmit, cFor, cLoop, pDict0, pListRange, pIterNext, pNextCall, opNextCall, opSet0, opAdd, opSub, opMul, opDiv, opMod, opNeg, opEq, opNe, opLt, opGt, opGe, opIsN, opIsNotN, opIn, opNotIn, opItem, opSetItem, opAttrS, opSetS, opAttrN, opSetN, opLen, opSum, opMin2, opMax2, opAppend, opExtend, opClear, opPop, opCount, opGet, opAdd', opTuple, opList, opSorted, opDel, iAdd, AObj.fld, AObj.setFld, setvs, retV, noX, Option.map, Option.getD, ↓reduceIte, Bool.false_eq_true, Bool.not_true, Bool.not_false, List.cons_append, List.nil_append]
    by_cases hq : cnt keys[i] = 0
    · rw [if_pos (by simpa using hq)]
      refine ⟨_, rfl, dk, _, _, ek, qk, rfl, ?_, rfl, ?_⟩
      · have : ((keys.take i).filter fun k => cnt k = 0).length ≤ (keys.take i).length := List.length_filter_le ..
        simp only [List.length_map, List.length_take] at this ⊢; (first | lia | omega)
      · rw [hr]; simp [hq]
    · rw [if_neg (by simpa using hq)]
      refine ⟨rfl, ?_⟩
      rw [hr]; simp [hq]
  · have e1 : (keys.map fun k => AV.ref (rec k))[i]? = none := by simp; (first | lia | omega)
    rw [e1]
    dsimp only [pName, pInt, pBool, pNone, pBin, pUn, tOf, tNot, tAnd, tOr, pIf, lNil, lCons, lStar, starOf, pList, pTuple, pTruth, pSlice, sAssign, aName, aTuple, aItem, aAttrS, aAttrN, sAugName, sAugItem, sAugS, sAugN, sNil, sSeq, sIf, sRet, sFlow, sExpr, sFor, sWhile, sTry, sRaise, sDel, sPair, sDead, vNil, vCons, vOf, iSeq, iRange, iVals, pBi, pBm, pMeth, pCall, pNewS, pNewN, pWal, pComp, cTest, cEmit, cFor, cLoop, pDict0, pListRange, pIterNext, pNextCall, opNextCall, opSet0, opAdd, opSub, opMul, opDiv, opMod, opNeg, opEq, opNe, opLt, opGt, opGe, opIsN, opIsNotN, opIn, opNotIn, opItem, opSetItem, opAttrS, opSetS, opAttrN, opSetN, opLen, opSum, opMin2, opMax2, opAppend, opExtend, opClear, opPop, opCount, opGet, opAdd', opTuple, opList, opSorted, opDel, iAdd, AObj.fld, AObj.setFld, setvs, retV, noX, Option.map, Option.getD, ↓reduceIte, Bool.false_eq_true, Bool.not_true, Bool.not_false, List.cons_append, List.nil_append]
    intro rl hrl
    rw [List.take_of_length_le (by (first | lia | omega) : keys.length ≤ i)]
    generalize hR : (keys.filter fun k => cnt k = 0) = R
    have S1 := S.ext (Ext.new (.list (intsA R)) hrl)
    have S2 := S1.setd (.ref rl) 0 0
    have hrl1 := upd_at (o := .sd (some (.ref n2i)) (some (.ref rl)) (some (.int 0)) (some (.int 0))) (ne_obj (upd_self g rl (.list (intsA R))) S1.hd nofun) (upd_self g rl (.list (intsA R)))
    have F1 : Frm g own (upd (upd g rl (.list (intsA R))) d (.sd (some (.ref n2i)) (some (.ref rl)) (some (.int 0)) (some (.int 0)))) own := (Frm.of_ext (Ext.new _ hrl)).trans (Frm.set S.od)
    refine ⟨.ref x, rfl, d, _, S1.hx, S1.hd, ⟨_, _, _, _, rfl⟩, ?_⟩
    dsimp only [pName, pInt, pBool, pNone, pBin, pUn, tOf, tNot, tAnd, tOr, pIf, lNil, lCons, lStar, starOf, pList, pTuple, pTruth, pSlice, sAssign, aName, aTuple, aItem, aAttrS, aAttrN, sAugName, sAugItem, sAugS, sAugN, sNil, sSeq, sIf, sRet, sFlow, sExpr, sFor, sWhile, sTry, sRaise, sDel, sPair, sDead, vNil, vCons, vOf, iSeq, iRange, iVals, pBi, pBm, pMeth, pCall, pNewS, pNewN, pWal, pComp, cTest, cEmit, cFor, cLoop, pDict0, pListRange, pIterNext, pNextCall, opNextCall, opSet0, opAdd, opSub, opMul, opDiv, opMod, opNeg, opEq, opNe, opLt, opGt, opGe, opIsN, opIsNotN, opIn, opNotIn, opItem, opSetItem, opAttrS, opSetS, opAttrN, opSetN, opLen, opSum, opMin2, opMax2, opAppend, opExtend, opClear, opPop, opCount, opGet, opAdd', opTuple, opList, opSorted, opDel, iAdd, AObj.fld, AObj.setFld, setvs, retV, noX, Option.map, Option.getD, ↓reduceIte, Bool.false_eq_true, Bool.not_true, Bool.not_false, List.cons_append, List.nil_append]
    generalize upd (upd g rl (.list (intsA R))) d (.sd (some (.ref n2i)) (some (.ref rl)) (some (.int 0)) (some (.int 0))) = hp2 at S2 hrl1 F1
    refine ⟨.ref x, rfl, x, ⟨rfl, d, S2.hx, isSd_of S2.hd⟩, ?_⟩
    have RUN : ∀ hp', Ext hp2 hp' → Run hp' (fun a => own a ∨ a = rl) x d n2i rec suc keys succ (fun _ => false) (fun _ => false) rl R := fun hp' hx => by
      have S3 := S2.ext hx
      refine { S := ?_, hrl := hx _ _ hrl1, orl := .inr rfl, nrl := fun k hk => ne_of (S.hs k hk) hrl, nd := ?_, mem := ?_, ko := nofun, kd := nofun, sub := hsub, small := hz }
      · have e : cntOf keys succ (fun _ => false) (fun _ => false) = cnt := by
          funext k
          show ((ind keys succ (fun _ => false) k : Nat) : Int) = _
          by_cases hk : k ∈ keys
          · exact (hc k hk).symm
          · rw [(S.out k hk).1, ind_zero.mpr fun v hv hkv => absurd (hsub v hv k hkv) hk]; rfl
        rw [e]
        have e2 : keys.countP (fun k => false) = 0 := by simp
        simp only [Bool.or_self, e2]
        exact { S3 with hr2 := (fun k hk => by obtain ⟨dd, vs, e, q⟩ := S3.hr2 k hk; exact ⟨dd, vs, e, .inl q⟩), od := .inl S3.od, on := .inl S3.on, orr := fun k hk => .inl (S3.orr k hk), os := fun k hk => .inl (S3.os k hk), al := fun a ha => ha.elim (S3.al a) fun e => by rw [e, hx _ _ hrl1]; nofun }
      · rw [← hR]; exact List.Pairwise.filter _ S.nd
      · intro k
        rw [← hR, List.mem_filter, decide_eq_true_eq]
        refine and_congr_right fun hk => ?_
        rw [hc k hk]
        simp
    have FRM : ∀ hp', Ext hp2 hp' → Frm g own hp' (fun a => own a ∨ a = rl) := fun hp' hx a o e n => by
      obtain ⟨p, q⟩ := F1 a o e n
      refine ⟨hx _ _ p, ?_⟩
      rintro (h | rfl)
      · exact n h
      · rw [hrl] at e; cases e
    refine cycle_spec S2 hsub hz (fun hp' hx hr => ?_) (fun hp' l c hx hl hl' hcn hcy => ?_)
    · unfold fcPrep
      dsimp only [pName, pInt, pBool, pNone, pBin, pUn, tOf, tNot, tAnd, tOr, pIf, lNil, lCons, lStar, starOf, pList, pTuple, pTruth, pSlice, sAssign, aName, aTuple, aItem, aAttrS, aAttrN, sAugName, sAugItem, sAugS, sAugN, sNil, sSeq, sIf, sRet, sFlow, sExpr, sFor, sWhile, sTry, sRaise, sDel, sPair, sDead, vNil, vCons, vOf, iSeq, iRange, iVals, pBi, pBm, pMeth, pCall, pNewS, pNewN, pWal, pComp, cTest, cEmit, cFor, cLoop, pDict0, pListRange, pIterNext, pNextCall, opNextCall, opSet0, opAdd, opSub, opMul, opDiv, opMod, opNeg, opEq, opNe, opLt, opGt, opGe, opIsN, opIsNotN, opIn, opNotIn, opItem, opSetItem, opAttrS, opSetS, opAttrN, opSetN, opLen, opSum, opMin2, opMax2, opAppend, opExtend, opClear, opPop, opCount, opGet, opAdd', opTuple, opList, opSorted, opDel, iAdd, AObj.fld, AObj.setFld, setvs, retV, noX, Option.map, Option.getD, ↓reduceIte, Bool.false_eq_true, Bool.not_true, Bool.not_false, List.cons_append, List.nil_append]
      exact ⟨_, rfl, h0 hp' _ rl R (RUN _ hx) (FRM _ hx) hr⟩
    · unfold fcPrep
      dsimp only [pName, pInt, pBool, pNone, pBin, pUn, tOf, tNot, tAnd, tOr, pIf, lNil, lCons, lStar, starOf, pList, pTuple, pTruth, pSlice, sAssign, aName, aTuple, aItem, aAttrS, aAttrN, sAugName, sAugItem, sAugS, sAugN, sNil, sSeq, sIf, sRet, sFlow, sExpr, sFor, sWhile, sTry, sRaise, sDel, sPair, sDead, vNil, vCons, vOf, iSeq, iRange, iVals, pBi, pBm, pMeth, pCall, pNewS, pNewN, pWal, pComp, cTest, cEmit, cFor, cLoop, pDict0, pListRange, pIterNext, pNextCall, opNextCall, opSet0, opAdd, opSub, opMul, opDiv, opMod, opNeg, opEq, opNe, opLt, opGt, opGe, opIsN, opIsNotN, opIn, opNotIn, opItem, opSetItem, opAttrS, opSetS, opAttrN, opSetN, opLen, opSum, opMin2, opMax2, opAppend, opExtend, opClear, opPop, opCount, opGet, opAdd', opTuple, opList, opSorted, opDel, iAdd, AObj.fld, AObj.setFld, setvs, retV, noX, Option.map, Option.getD, ↓reduceIte, Bool.false_eq_true, Bool.not_true, Bool.not_false, List.cons_append, List.nil_append]
      refine ⟨_, rfl, _, lst_of hl', ?_⟩
      dsimp only
      rw [if_pos (by cases c with | nil => exact absurd rfl hcn | cons => rfl)]
      exact ⟨_, rfl, h1 hp' _ rl R (RUN _ hx) (FRM _ hx) hcy⟩

theorem Run.ext {hp' : AH} {don out : Int → Bool} {rl : Addr} {R : List Int} (r : Run hp own x d n2i rec suc keys succ don out rl R) (h : Ext hp hp') : Run hp' own x d n2i rec suc keys succ don out rl R :=
  { r with S := r.S.ext h, hrl := h _ _ r.hrl }
theorem Run.pred {don out : Int → Bool} {rl : Addr} {R : List Int} (r : Run hp own x d n2i rec suc keys succ don out rl R) {k : Int} : k ∈ R ↔ k ∈ keys ∧ don k = false ∧ out k = false ∧ ∀ v ∈ keys, k ∈ succ v → don v = true := by
  rw [r.mem k, ind_zero]
theorem cntP_or {p q : Int → Bool} (hd : ∀ k, p k = true → q k = false) : ∀ l : List Int, l.countP (fun k => p k || q k) = l.countP p + l.countP q
  | [] => rfl
  | a :: l => by
    rw [List.countP_cons, List.countP_cons, List.countP_cons, cntP_or hd l]
    cases h1 : p a <;> cases h2 : q a
    · simp
    · simp; (first | lia | omega)
    · simp; (first | lia | omega)
    · have := hd a h1; rw [h2] at this; cases this
theorem cntP_mem : ∀ {R l : List Int}, R.Nodup → l.Nodup → (∀ k ∈ R, k ∈ l) → l.countP (fun k => decide (k ∈ R)) = R.length := by
  intro R l hR hl hs
  rw [List.countP_eq_length_filter]
  refine List.Perm.length_eq ((List.perm_ext_iff_of_nodup (List.Pairwise.filter _ hl) hR).mpr fun k => ?_)
  rw [List.mem_filter, decide_eq_true_eq]
  exact ⟨fun h => h.2, fun h => ⟨hs k h, h⟩⟩
theorem ready_spec {Q : AV → AH → Prop} {E : Ex → AH → Prop} {don out : Int → Bool} {rl : Addr} {R : List Int} (r : Run hp own x d n2i rec suc keys succ don out rl R)
    (h : ∀ hp' t, Run hp' own x d n2i rec suc keys succ don (fun k => out k || decide (k ∈ R)) rl [] → Frm hp own hp' own → hp t = none → hp' t = some (.tup (intsA R)) → Q (.ref t) hp') :
    fp_get_ready [.ref x] Q E hp := by
  refine ⟨rfl, ?_⟩
  have S := r.S
  have hRk : ∀ k ∈ R, k ∈ keys := fun k hk => ((r.mem k).mp hk).1
  unfold pt_get_ready
  dsimp only [pName, pInt, pBool, pNone, pBin, pUn, tOf, tNot, tAnd, tOr, pIf, lNil, lCons, lStar, starOf, pList, pTuple, pTruth, pSlice, sAssign, aName, aTuple, aItem, aAttrS, aAttrN, sAugName, sAugItem, sAugS, sAugN, sNil, sSeq, sIf, sRet, sFlow, sExpr, sFor, sWhile, sTry, sRaise, sDel, sPair, sDead, vNil, vCons, vOf, iSeq, iRange, iVals, pBi, pBm, pMeth, pCall, pNewS, pNewN, pWal, pComp, cTest, cEmit, cFor, cLoop, pDict0, pListRange, pIterNext, pNextCall, opNextCall, opSet0, opAdd, opSub, opMul, opDiv, opMod, opNeg, opEq, opNe, opLt, opGt, opGe, opIsN, opIsNotN, opIn, opNotIn, opItem, opSetItem, opAttrS, opSetS, opAttrN, opSetN, opLen, opSum, opMin2, opMax2, opAppend, opExtend, opClear, opPop, opCount, opGet, opAdd', opTuple, opList, opSorted, opDel, iAdd, AObj.fld, AObj.setFld, setvs, retV, noX, Option.map, Option.getD, ↓reduceIte, Bool.false_eq_true, Bool.not_true, Bool.not_false, List.cons_append, List.nil_append]
  refine ⟨.ref x, rfl, d, _, _, S.hx, S.hd, rfl, ?_⟩
  dsimp only [pName, pInt, pBool, pNone, pBin, pUn, tOf, tNot, tAnd, tOr, pIf, lNil, lCons, lStar, starOf, pList, pTuple, pTruth, pSlice, sAssign, aName, aTuple, aItem, aAttrS, aAttrN, sAugName, sAugItem, sAugS, sAugN, sNil, sSeq, sIf, sRet, sFlow, sExpr, sFor, sWhile, sTry, sRaise, sDel, sPair, sDead, vNil, vCons, vOf, iSeq, iRange, iVals, pBi, pBm, pMeth, pCall, pNewS, pNewN, pWal, pComp, cTest, cEmit, cFor, cLoop, pDict0, pListRange, pIterNext, pNextCall, opNextCall, opSet0, opAdd, opSub, opMul, opDiv, opMod, opNeg, opEq, opNe, opLt, opGt, opGe, opIsN, opIsNotN, opIn, opNotIn, opItem, opSetItem, opAttrS, opSetS, opAttrN, opSetN, opLen, opSum, opMin2, opMax2, opAppend, opExtend, opClear, opPop, opCount, opGet, opAdd', opTuple, opList, opSorted, opDel, iAdd, AObj.fld, AObj.setFld, setvs, retV, noX, Option.map, Option.getD, ↓reduceIte, Bool.false_eq_true, Bool.not_true, Bool.not_false, List.cons_append, List.nil_append]
  refine ⟨.ref x, rfl, d, _, _, S.hx, S.hd, rfl, ?_⟩
  refine ⟨_, r.hrl, fun t ht => ?_⟩
  have r1 := r.ext (Ext.new (.tup (intsA R)) ht)
  have F1 : Frm hp own (upd hp t (.tup (intsA R))) own := Frm.of_ext (Ext.new _ ht)
  have ht1 := upd_self hp t (.tup (intsA R))
  have hto : ¬ own t := fun q => S.al t q ht
  dsimp only [pName, pInt, pBool, pNone, pBin, pUn, tOf, tNot, tAnd, tOr, pIf, lNil, lCons, lStar, starOf, pList, pTuple, pTruth, pSlice, sAssign, aName, aTuple, aItem, aAttrS, aAttrN, sAugName, sAugItem, sAugS, sAugN, sNil, sSeq, sIf, sRet, sFlow, sExpr, sFor, sWhile, sTry, sRaise, sDel, sPair, sDead, vNil, vCons, vOf, iSeq, iRange, iVals, pBi, pBm, pMeth, pCall, pNewS, pNewN, pWal, pComp, cTest, cEmit, cFor, cLoop, pDict0, pListRange, pIterNext, pNextCall, opNextCall, opSet0, opAdd, opSub, opMul, opDiv, opMod, opNeg, opEq, opNe, opLt, opGt, opGe, opIsN, opIsNotN, opIn, opNotIn, opItem, opSetItem, opAttrS, opSetS, opAttrN, opSetN, opLen, opSum, opMin2, opMax2, opAppend, opExtend, opClear, opPop, opCount, opGet, opAdd', opTuple, opList, opSorted, opDel, iAdd, AObj.fld, AObj.setFld, setvs, retV, noX, Option.map, Option.getD, ↓reduceIte, Bool.false_eq_true, Bool.not_true, Bool.not_false, List.cons_append, List.nil_append]
  generalize upd hp t (.tup (intsA R)) = hp1 at r1 F1 ht1
  refine ⟨.ref x, rfl, d, _, _, r1.S.hx, r1.S.hd, rfl, ?_⟩
  refine ⟨_, rfl, t, rfl, .inr (.inl ⟨_, ht1, ?_⟩)⟩
  refine ⟨fun i σ => σ.loc 0 = some (.ref x) ∧ σ.loc 1 = some (.ref t) ∧ σ.loc 2 = some (.ref n2i) ∧ Srt σ.hp own x d n2i rec suc keys (fun k => if k ∈ R.take i then -1 else cntOf keys succ don out k) succ (.ref rl) (keys.countP fun k => don k || out k) (keys.countP don) ∧ σ.hp rl = some (.list (intsA R)) ∧ Frm hp own σ.hp own ∧ σ.hp t = some (.tup (intsA R)), ?_, ?_⟩
  · exact ⟨rfl, rfl, rfl, by simpa using r1.S, r1.hrl, F1, ht1⟩
  · rintro i ⟨l, g⟩ ⟨l0, l1, l2, S', hrl', F', ht'⟩
    dsimp only at l0 l1 l2 S' hrl' F' ht'
    refine ⟨ht', ?_⟩
    by_cases hi : i < R.length
    · have e1 : (intsA R)[i]? = some (.int R[i]) := by simp [hi]
      rw [e1]
      have hk := hRk _ (List.getElem_mem hi)
      obtain ⟨dk, ek, qk⟩ := S'.hr _ hk
      refine ⟨_, l2, _, rfl, _, S'.item hk, dk, _, ek, qk, l0, l1, l2, ?_, ?_, F'.trans (Frm.set (S'.orr _ hk)), ?_⟩
      · have S2 := S'.setc hk (-1) qk (S'.odd hk ek)
        have e : setI (fun k => if k ∈ R.take i then -1 else cntOf keys succ don out k) R[i] (-1) = fun k => if k ∈ R.take (i + 1) then -1 else cntOf keys succ don out k := by
          funext k
          unfold setI
          rw [take_next hi]
          by_cases q : k = R[i]
          · rw [if_pos q, if_pos (by rw [q]; exact List.mem_append_right _ (List.mem_singleton.mpr rfl))]
          · rw [if_neg q]
            dsimp only
            by_cases q2 : k ∈ R.take i
            · rw [if_pos q2, if_pos (List.mem_append_left _ q2)]
            · rw [if_neg q2, if_neg (by rw [List.mem_append, List.mem_singleton]; exact fun h => h.elim q2 q)]
        rw [e] at S2
        exact S2
      · exact upd_at (ne_obj hrl' ek nofun) hrl'
      · exact upd_at (ne_obj ht' ek nofun) ht'
    · have e1 : (intsA R)[i]? = none := by simp; (first | lia | omega)
      rw [e1]
      rw [List.take_of_length_le (by (first | lia | omega) : R.length ≤ i)] at S'
      refine ⟨_, l0, d, _, _, S'.hx, S'.hd, rfl, ⟨rl, _, rfl, hrl', rfl⟩, _, hrl', ?_⟩
      have S2 := S'.setl (l' := []) hrl' r.nrl
      have hrl2 := upd_self g rl (.list [])
      have ht2 := upd_at (o := .list []) (ne_obj ht' hrl' nofun) ht'
      have F2 := F'.trans (Frm.set (o := .list []) r.orl)
      dsimp only
      generalize upd g rl (.list []) = hp2 at S2 hrl2 ht2 F2
      refine ⟨_, l0, d, _, _, S2.hx, S2.hd, rfl, _, l1, .inr ⟨_, ht2, ?_⟩⟩
      dsimp only [pName, pInt, pBool, pNone, pBin, pUn, tOf, tNot, tAnd, tOr, pIf, lNil, lCons, lStar, starOf, pList, pTuple, pTruth, pSlice, sAssign, aName, aTuple, aItem, aAttrS, aAttrN, sAugName, sAugItem, sAugS, sAugN, sNil, sSeq, sIf, sRet, sFlow, sExpr, sFor, sWhile, sTry, sRaise, sDel, sPair, sDead, vNil, vCons, vOf, iSeq, iRange, iVals, pBi, pBm, pMeth, pCall, pNewS, pNewN, pWal, pComp, cTest, cEmit, cFor, cLoop, pDict0, pListRange, pIterNext, pNextCall, opNextCall, opSet0, opAdd, opSub, opMul, opDiv, opMod, opNeg, opEq, opNe, opLt, opGt, opGe, opIsN, opIsNotN, opIn, opNotIn, opItem, opSetItem, opAttrS, opSetS, opAttrN, opSetN, opLen, opSum, opMin2, opMax2, opAppend, opExtend, opClear, opPop, opCount, opGet, opAdd', opTuple, opList, opSorted, opDel, iAdd, AObj.fld, AObj.setFld, setvs, retV, noX, Option.map, Option.getD, ↓reduceIte, Bool.false_eq_true, Bool.not_true, Bool.not_false, List.cons_append, List.nil_append]
      refine ⟨d, _, S2.hx, S2.hd, ⟨_, _, _, _, rfl⟩, _, l1, ?_⟩
      have S3 := S2.setd (.ref rl) ((keys.countP fun k => don k || out k) + (intsA R).length) (keys.countP don)
      refine h _ t { r with S := ?_, hrl := upd_at (ne_obj hrl2 S2.hd nofun) hrl2, nd := List.nodup_nil, mem := ?_, ko := ?_ } (F2.trans (Frm.set S2.od)) ht (upd_at (ne_obj ht2 S2.hd nofun) ht2)
      · have e : (fun k => if k ∈ R then -1 else cntOf keys succ don out k) = cntOf keys succ don (fun k => out k || decide (k ∈ R)) := by
          funext k
          unfold cntOf
          by_cases q : k ∈ R
          · rw [if_pos q, ((r.mem k).mp q).2.1]; simp [q]
          · rw [if_neg q]; simp [q]
        have e2 : keys.countP (fun k => don k || (out k || decide (k ∈ R))) = keys.countP (fun k => don k || out k) + R.length := by
          rw [← cntP_mem r.nd r.S.nd hRk, ← cntP_or]
          · simp only [Bool.or_assoc]
          · intro k hk
            rw [decide_eq_false_iff_not]
            intro q
            obtain ⟨_, q1, q2, _⟩ := (r.mem k).mp q
            rw [q1, q2] at hk; cases hk
        rw [e] at S3
        simp only [List.length_map] at S3
        rw [e2, Int.natCast_add]
        simp only [List.length_map]
        exact S3
      · intro k
        constructor
        · nofun
        · rintro ⟨q1, q2, q3, q4⟩
          rw [Bool.or_eq_false_iff, decide_eq_false_iff_not] at q3
          exact absurd ((r.mem k).mpr ⟨q1, q2, q3.1, q4⟩) q3.2
      · intro k hk
        rw [Bool.or_eq_true, decide_eq_true_eq] at hk
        rcases hk with hk | hk
        · exact r.ko k hk
        · obtain ⟨q1, q2, q3, q4⟩ := (r.mem k).mp hk
          exact ⟨q1, q2, q4⟩

theorem len_sub {l keys : List Int} (h : l.Nodup) (hs : ∀ k ∈ l, k ∈ keys) : l.length ≤ keys.length := by
  have h2 := sum_sub (f := fun _ => 1) h hs
  have h3 : ∀ l : List Int, (l.map fun _ => 1).sum = l.length := fun l => by induction l with
    | nil => rfl
    | cons a l ih => simp only [List.map_cons, List.sum_cons, List.length_cons, ih]; (first | lia | omega)
  rwa [h3, h3] at h2
theorem ind_ge {don : Int → Bool} {v k : Int} (hv : v ∈ keys) (hd : don v = false) : (succ v).count k ≤ ind keys succ don k := by
  unfold ind
  have := sum_ge (f := fun v => if don v then 0 else (succ v).count k) hv
  simpa [hd] using this
noncomputable def dnInner : SP := (sFor (iSeq (pUn (opAttrN 2) (pName 4))) (aName 6) (sSeq (sAssign (pBin opItem (pName 2) (pName 6)) (aName 7)) (sSeq (sAugN 1 opSub (pName 7) (pInt 1)) (sIf (tOf (pBin opEq (pUn (opAttrN 1) (pName 7)) (pInt 0))) (sExpr (pBm "list" opAppend (pUn (opAttrS 1) (pName 0)) (lCons (pName 6) lNil))) sNil))))
theorem dn_inner {σ : St} {Q : Fl → St → Prop} {E : Ex → St → Prop} {don out : Int → Bool} {rl : Addr} {R : List Int} {v : Int} {c : Int → Int}
    (hv : v ∈ keys) (hvd : don v = false) (hvi : ind keys succ don v = 0) (hsub : ∀ v ∈ keys, ∀ w ∈ succ v, w ∈ keys) (hz : keys.length < 1000) (hR : R.length < 1000)
    (hc : ∀ k, 0 < ind keys succ don k → c k = ind keys succ don k)
    (S : Srt σ.hp own x d n2i rec suc keys (setI c v (-2)) succ (.ref rl) np nf) (hrl : σ.hp rl = some (.list (intsA R))) (nrl : ∀ k ∈ keys, suc k ≠ rl) (orl : own rl)
    (l0 : σ.loc 0 = some (.ref x)) (l2 : σ.loc 2 = some (.ref n2i)) (l4 : σ.loc 4 = some (.ref (rec v)))
    (h : ∀ l' hp' N, l' 0 = some (.ref x) → l' 1 = σ.loc 1 → l' 2 = some (.ref n2i) → Srt hp' own x d n2i rec suc keys (fun k => setI c v (-2) k - (succ v).count k) succ (.ref rl) np nf → hp' rl = some (.list (intsA (R ++ N))) → N.Nodup →
      (∀ k, k ∈ N ↔ (k ∈ succ v ∧ ind keys succ don k = (succ v).count k)) → Frm σ.hp own hp' own → Q .next ⟨l', hp'⟩) :
    dnInner Q E σ := by
  unfold dnInner
  dsimp only [pName, pInt, pBool, pNone, pBin, pUn, tOf, tNot, tAnd, tOr, pIf, lNil, lCons, lStar, starOf, pList, pTuple, pTruth, pSlice, sAssign, aName, aTuple, aItem, aAttrS, aAttrN, sAugName, sAugItem, sAugS, sAugN, sNil, sSeq, sIf, sRet, sFlow, sExpr, sFor, sWhile, sTry, sRaise, sDel, sPair, sDead, vNil, vCons, vOf, iSeq, iRange, iVals, pBi, pBm, pMeth, pCall, pNewS, pNewN, pWal, pComp, cTest, cEmit, cFor, cLoop, pDict0, pListRange, pIterNext, pNextCall, opNextCall, opSet0, opAdd, opSub, opMul, opDiv, opMod, opNeg, opEq, opNe, opLt, opGt, opGe, opIsN, opIsNotN, opIn, opNotIn, opItem, opSetItem, opAttrS, opSetS, opAttrN, opSetN, opLen, opSum, opMin2, opMax2, opAppend, opExtend, opClear, opPop, opCount, opGet, opAdd', opTuple, opList, opSorted, opDel, iAdd, AObj.fld, AObj.setFld, setvs, retV, noX, Option.map, Option.getD, ↓reduceIte, Bool.false_eq_true, Bool.not_true, Bool.not_false, List.cons_append, List.nil_append]
  obtain ⟨dv, ev, qv⟩ := S.hr v hv
  have hs := S.hs v hv
  refine ⟨_, l4, dv, _, _, ev, qv, rfl, _, rfl, .inl ⟨_, lst_of hs, ?_⟩⟩
  refine ⟨fun j σ' => σ'.loc 0 = some (.ref x) ∧ σ'.loc 1 = σ.loc 1 ∧ σ'.loc 2 = some (.ref n2i) ∧ Srt σ'.hp own x d n2i rec suc keys (fun k => setI c v (-2) k - ((succ v).take j).count k) succ (.ref rl) np nf ∧ Frm σ.hp own σ'.hp own ∧ ∃ N, σ'.hp rl = some (.list (intsA (R ++ N))) ∧ N.Nodup ∧
      (∀ k, k ∈ N ↔ (k ∈ (succ v).take j ∧ ind keys succ don k = ((succ v).take j).count k)), ?_, ?_⟩
  · refine ⟨l0, rfl, l2, ?_, Frm.refl _ _, [], by simpa using hrl, List.nodup_nil, by simp⟩
    have : (fun k => setI c v (-2) k - (((succ v).take 0).count k : Nat)) = setI c v (-2) := by funext k; simp
    rw [this]; exact S
  · rintro j ⟨l, g⟩ ⟨l0', l1', l2', S', F', N, hrl', hN, hNm⟩
    dsimp only at l0' l1' l2' S' F' hrl'
    refine ⟨lst_of (S'.hs v hv), ?_⟩
    by_cases hj : j < (succ v).length
    · have e1 : (intsA (succ v))[j]? = some (.int (succ v)[j]) := by simp [hj]
      rw [e1]
      generalize hw : (succ v)[j] = w
      have hwm : w ∈ succ v := hw ▸ List.getElem_mem hj
      have hwk := hsub v hv w hwm
      have etake : (succ v).take (j + 1) = (succ v).take j ++ [w] := by rw [take_next hj, hw]
      have hcle : ((succ v).take (j + 1)).count w ≤ (succ v).count w := List.Sublist.count_le _ (List.take_sublist ..)
      have hge := ind_ge (succ := succ) (k := w) hv hvd
      have hcw : ((succ v).take (j + 1)).count w = ((succ v).take j).count w + 1 := by rw [etake, List.count_append]; simp
      have hwv : w ≠ v := fun e => by rw [e] at hge hcw hcle; (first | lia | omega)
      have hcc := hc w (by (first | lia | omega))
      have hnN : w ∉ N := fun h => by
        have h1 := (hNm w).mp h
        (first | lia | omega)
      dsimp only [pName, pInt, pBool, pNone, pBin, pUn, tOf, tNot, tAnd, tOr, pIf, lNil, lCons, lStar, starOf, pList, pTuple, pTruth, pSlice, sAssign, aName, aTuple, aItem, aAttrS, aAttrN, sAugName, sAugItem, sAugS, sAugN, sNil, sSeq, sIf, sRet, sFlow, sExpr, sFor, sWhile, sTry, sRaise, sDel, sPair, sDead, vNil, vCons, vOf, iSeq, iRange, iVals, pBi, pBm, pMeth, pCall, pNewS, pNewN, pWal, pComp, cTest, cEmit, cFor, cLoop, pDict0, pListRange, pIterNext, pNextCall, opNextCall, opSet0, opAdd, opSub, opMul, opDiv, opMod, opNeg, opEq, opNe, opLt, opGt, opGe, opIsN, opIsNotN, opIn, opNotIn, opItem, opSetItem, opAttrS, opSetS, opAttrN, opSetN, opLen, opSum, opMin2, opMax2, opAppend, opExtend, opClear, opPop, opCount, opGet, opAdd', opTuple, opList, opSorted, opDel, iAdd, AObj.fld, AObj.setFld, setvs, retV, noX, Option.map, Option.getD, ↓reduceIte, Bool.false_eq_true, Bool.not_true, Bool.not_false, List.cons_append, List.nil_append]
      obtain ⟨dw, ew, qw⟩ := S'.hr w hwk
      refine ⟨_, l2', _, rfl, _, S'.item hwk, _, rfl, dw, _, _, ew, qw, rfl, ?_⟩
      refine ⟨dw, _, ew, qw, ?_⟩
      have S2 := S'.setc hwk (setI c v (-2) w - ((succ v).take j).count w - 1) qw (S'.odd hwk ew)
      have hval : setI c v (-2) w - (((succ v).take j).count w : Nat) - 1 = setI c v (-2) w - (((succ v).take (j + 1)).count w : Nat) := by (first | lia | omega)
      have e : setI (fun k => setI c v (-2) k - ((succ v).take j).count k) w (setI c v (-2) w - ((succ v).take j).count w - 1) = fun k => setI c v (-2) k - ((succ v).take (j + 1)).count k := by
        funext k
        by_cases q : k = w
        · rw [q, setI_self, hval]
        · rw [setI_ne q, etake, List.count_append, List.count_singleton, if_neg (by simpa using Ne.symm q), Nat.add_zero]
      rw [e] at S2
      have hrl2 := upd_at (o := .rcd dw [some (.int w), some (.int (setI c v (-2) w - ((succ v).take j).count w - 1)), some (.ref (suc w))]) (ne_obj hrl' ew nofun) hrl'
      have F2 := F'.trans (Frm.set (o := .rcd dw [some (.int w), some (.int (setI c v (-2) w - ((succ v).take j).count w - 1)), some (.ref (suc w))]) (S'.orr w hwk))
      have e3 : ([some (AV.int w), some (AV.int (setI c v (-2) w - ((succ v).take j).count w)), some (AV.ref (suc w))] ++ List.replicate (1 + 1 - [some (AV.int w), some (AV.int (setI c v (-2) w - ((succ v).take j).count w)), some (AV.ref (suc w))].length) none).set 1 (some (.int (setI c v (-2) w - ((succ v).take j).count w - 1))) = [some (.int w), some (.int (setI c v (-2) w - ((succ v).take j).count w - 1)), some (.ref (suc w))] := rfl
      rw [e3]
      generalize upd g (rec w) (.rcd dw [some (.int w), some (.int (setI c v (-2) w - ((succ v).take j).count w - 1)), some (.ref (suc w))]) = hp2 at S2 hrl2 F2
      obtain ⟨dw2, ew2, qw2⟩ := S2.hr w hwk
      refine ⟨_, rfl, dw2, _, _, ew2, qw2, rfl, ?_⟩
      dsimp only [pName, pInt, pBool, pNone, pBin, pUn, tOf, tNot, tAnd, tOr, pIf, lNil, lCons, lStar, starOf, pList, pTuple, pTruth, pSlice, sAssign, aName, aTuple, aItem, aAttrS, aAttrN, sAugName, sAugItem, sAugS, sAugN, sNil, sSeq, sIf, sRet, sFlow, sExpr, sFor, sWhile, sTry, sRaise, sDel, sPair, sDead, vNil, vCons, vOf, iSeq, iRange, iVals, pBi, pBm, pMeth, pCall, pNewS, pNewN, pWal, pComp, cTest, cEmit, cFor, cLoop, pDict0, pListRange, pIterNext, pNextCall, opNextCall, opSet0, opAdd, opSub, opMul, opDiv, opMod, opNeg, opEq, opNe, opLt, opGt, opGe, opIsN, opIsNotN, opIn, opNotIn, opItem, opSetItem, opAttrS, opSetS, opAttrN, opSetN, opLen, opSum, opMin2, opMax2, opAppend, opExtend, opClear, opPop, opCount, opGet, opAdd', opTuple, opList, opSorted, opDel, iAdd, AObj.fld, AObj.setFld, setvs, retV, noX, Option.map, Option.getD, ↓reduceIte, Bool.false_eq_true, Bool.not_true, Bool.not_false, List.cons_append, List.nil_append]
      rw [setI_ne hwv, hcc]
      by_cases q0 : (ind keys succ don w : Int) - (((succ v).take (j + 1)).count w : Nat) = 0
      · rw [if_pos (by simpa using q0)]
        refine ⟨_, l0', d, _, _, S2.hx, S2.hd, rfl, ⟨rl, _, rfl, hrl2, rfl⟩, _, rfl, _, hrl2, ?_, ?_⟩
        · have : N.length ≤ keys.length := len_sub hN fun k hk => hsub v hv k (List.mem_of_mem_take ((hNm k).mp hk).1)
          simp only [List.length_map, List.length_append]; (first | lia | omega)
        · have S3 := S2.setl (l' := intsA (R ++ N) ++ [.int w]) hrl2 nrl
          refine ⟨l0', l1', l2', S3, F2.trans (Frm.set orl), N ++ [w], ?_, ?_, ?_⟩
          · have : intsA (R ++ (N ++ [w])) = intsA (R ++ N) ++ [.int w] := by simp
            rw [this]; exact upd_self ..
          · rw [List.nodup_append]
            exact ⟨hN, by simp, fun a ha b hb e => hnN (by rw [← List.mem_singleton.mp hb, ← e]; exact ha)⟩
          · intro k
            by_cases q : k = w
            · subst q
              refine ⟨fun _ => ⟨by rw [etake]; simp, by (first | lia | omega)⟩, fun _ => by simp⟩
            · have ec : ((succ v).take (j + 1)).count k = ((succ v).take j).count k := by
                rw [etake, List.count_append, List.count_singleton, if_neg (by simpa using Ne.symm q), Nat.add_zero]
              rw [ec, etake, List.mem_append, List.mem_append, hNm k, List.mem_singleton]
              simp [q]
      · rw [if_neg (by simpa using q0)]
        refine ⟨l0', l1', l2', S2, F2, N, hrl2, hN, fun k => ?_⟩
        by_cases q : k = w
        · subst q
          refine ⟨fun h => absurd h hnN, fun h => ?_⟩
          have := h.2
          (first | lia | omega)
        · have ec : ((succ v).take (j + 1)).count k = ((succ v).take j).count k := by
            rw [etake, List.count_append, List.count_singleton, if_neg (by simpa using Ne.symm q), Nat.add_zero]
          rw [ec, etake, hNm k, List.mem_append, List.mem_singleton]
          simp [q]
    · have e1 : (intsA (succ v))[j]? = none := by simp; (first | lia | omega)
      rw [e1]
      rw [List.take_of_length_le (by (first | lia | omega) : (succ v).length ≤ j)] at S' hNm
      exact h l g N l0' l1' l2' S' hrl' hN hNm F'
end
end
section
section
variable {hp : AH} {own : Addr → Prop} {x d n2i : Addr} {rec suc : Int → Addr} {keys : List Int} {cnt : Int → Int} {succ : Int → List Int} {rdy : AV} {np nf : Int}
theorem cntP_set {p : Int → Bool} {v : Int} : ∀ {l : List Int}, l.Nodup → v ∈ l → p v = false → l.countP (setB p v true) = l.countP p + 1
  | [], _, h, _ => by cases h
  | a :: l, hn, h, hp => by
    rw [List.nodup_cons] at hn
    rw [List.countP_cons, List.countP_cons]
    by_cases e : a = v
    · subst e
      have : l.countP (setB p a true) = l.countP p := List.countP_congr fun u hu => by
        unfold setB; rw [if_neg fun q => hn.1 (by rw [← q]; exact hu)]
      rw [this, hp]; unfold setB; simp
    · have hv : v ∈ l := by rcases List.mem_cons.mp h with q | q; exact absurd q.symm e; exact q
      rw [cntP_set hn.2 hv hp]
      unfold setB; rw [if_neg e]; (first | lia | omega)
theorem run_done {hp' : AH} {don out : Int → Bool} {rl : Addr} {R N : List Int} {v : Int} (r : Run hp own x d n2i rec suc keys succ don out rl R) (hv : out v = true)
    (S : Srt hp' own x d n2i rec suc keys (fun k => setI (cntOf keys succ don out) v (-2) k - (succ v).count k) succ (.ref rl) (keys.countP fun k => don k || out k) (keys.countP don + 1))
    (hrl : hp' rl = some (.list (intsA (R ++ N)))) (hN : N.Nodup) (hNm : ∀ k, k ∈ N ↔ (k ∈ succ v ∧ ind keys succ don k = (succ v).count k)) :
    Run hp' own x d n2i rec suc keys succ (setB don v true) (setB out v false) rl (R ++ N) := by
  obtain ⟨hvk, hvd, hvi⟩ := r.ko v hv
  have hin : ∀ k, ind keys succ don k = ind keys succ (setB don v true) k + (succ v).count k := fun k => ind_done r.S.nd hvk hvd
  have e1 : (fun k => setI (cntOf keys succ don out) v (-2) k - (succ v).count k) = cntOf keys succ (setB don v true) (setB out v false) := by
    funext k
    have hk := hin k
    by_cases q : k = v
    · subst q
      rw [setI_self]
      unfold cntOf setB
      rw [if_pos rfl, if_pos rfl]
      (first | lia | omega)
    · rw [setI_ne q]
      unfold cntOf
      have a1 : setB don v true k = don k := if_neg q
      have a2 : setB out v false k = out k := if_neg q
      rw [a1, a2]
      cases h1 : don k with
      | true =>
        have := (r.kd k h1).2
        simp only [if_true]; (first | lia | omega)
      | false =>
        cases h2 : out k with
        | true =>
          have := (r.ko k h2).2.2
          simp only [Bool.false_eq_true, if_false, if_true]; (first | lia | omega)
        | false => simp only [Bool.false_eq_true, if_false]; (first | lia | omega)
  have e2 : keys.countP (fun k => setB don v true k || setB out v false k) = keys.countP fun k => don k || out k := List.countP_congr fun k hk => by
    unfold setB
    by_cases q : k = v
    · rw [if_pos q, if_pos q, q, hv]; simp
    · rw [if_neg q, if_neg q]
  refine { r with S := ?_, hrl := hrl, nd := ?_, mem := ?_, ko := ?_, kd := ?_ }
  · rw [← e1, e2, cntP_set r.S.nd hvk hvd]
    exact S
  · rw [List.nodup_append]
    refine ⟨r.nd, hN, fun a ha b hb e => ?_⟩
    subst e
    have h1 := ((r.mem a).mp ha).2.2.2
    have h2 := (hNm a).mp hb
    have := List.count_pos_iff.mpr h2.1
    (first | lia | omega)
  · intro k
    have hk := hin k
    rw [List.mem_append, r.mem k, hNm k]
    by_cases q : k = v
    · subst q
      have a1 : setB don k true k = true := if_pos rfl
      rw [a1, hv, hvd]
      constructor
      · rintro (⟨_, _, h, _⟩ | ⟨h1, h2⟩)
        · cases h
        · have := List.count_pos_iff.mpr h1; (first | lia | omega)
      · rintro ⟨_, h, _⟩; cases h
    · have a1 : setB don v true k = don k := if_neg q
      have a2 : setB out v false k = out k := if_neg q
      rw [a1, a2]
      constructor
      · rintro (⟨h1, h2, h3, h4⟩ | ⟨h1, h2⟩)
        · exact ⟨h1, h2, h3, by (first | lia | omega)⟩
        · have hp := List.count_pos_iff.mpr h1
          refine ⟨r.sub v hvk k h1, ?_, ?_, by (first | lia | omega)⟩
          · cases h3 : don k with
            | false => rfl
            | true => have := (r.kd k h3).2; (first | lia | omega)
          · cases h3 : out k with
            | false => rfl
            | true => have := (r.ko k h3).2.2; (first | lia | omega)
      · rintro ⟨h1, h2, h3, h4⟩
        by_cases q2 : k ∈ succ v
        · exact .inr ⟨q2, by (first | lia | omega)⟩
        · exact .inl ⟨h1, h2, h3, by rw [hk, h4, List.count_eq_zero.mpr q2]⟩
  · intro k h
    have hk := hin k
    unfold setB at h
    by_cases q : k = v
    · rw [if_pos q] at h; cases h
    · rw [if_neg q] at h
      obtain ⟨h1, h2, h3⟩ := r.ko k h
      exact ⟨h1, by unfold setB; rw [if_neg q]; exact h2, by (first | lia | omega)⟩
  · intro k h
    have hk := hin k
    unfold setB at h
    by_cases q : k = v
    · rw [q]; rw [q] at hk; exact ⟨hvk, by (first | lia | omega)⟩
    · rw [if_neg q] at h
      obtain ⟨h1, h2⟩ := r.kd k h
      exact ⟨h1, by (first | lia | omega)⟩
noncomputable def addB (don : Int → Bool) (vs : List Int) : Int → Bool := fun k => don k || decide (k ∈ vs)
noncomputable def subB (out : Int → Bool) (vs : List Int) : Int → Bool := fun k => out k && !decide (k ∈ vs)
theorem addB_snoc {don : Int → Bool} {vs : List Int} {v : Int} : addB don (vs ++ [v]) = setB (addB don vs) v true := by
  funext k
  unfold addB setB
  by_cases q : k = v
  · rw [if_pos q]; simp [q]
  · rw [if_neg q]; simp [q]
theorem subB_snoc {out : Int → Bool} {vs : List Int} {v : Int} : subB out (vs ++ [v]) = setB (subB out vs) v false := by
  funext k
  unfold subB setB
  by_cases q : k = v
  · rw [if_pos q]; simp [q]
  · rw [if_neg q]; simp [q]
noncomputable def dnHead : SP := (sIf (tOf (pBin opIsN (pUn (opAttrS 1) (pName 0)) pNone)) sDead sNil)
end
end
section
noncomputable def keysN (n : Nat) : List Int := (List.range n).map fun i : Nat => (i : Int)
theorem mem_keysN {n : Nat} {k : Int} : k ∈ keysN n ↔ 0 ≤ k ∧ k < n := by
  unfold keysN
  rw [List.mem_map]
  constructor
  · rintro ⟨i, hi, rfl⟩; rw [List.mem_range] at hi; (first | lia | omega)
  · rintro ⟨h1, h2⟩; exact ⟨k.toNat, List.mem_range.mpr (by (first | lia | omega)), by (first | lia | omega)⟩
theorem len_keysN (n : Nat) : (keysN n).length = n := by unfold keysN; simp
theorem get_keysN {n i : Nat} (h : i < n) : (keysN n)[i]? = some (i : Int) := by unfold keysN; simp [h]
theorem rangeL_keys (n : Nat) : rangeL 0 1 n = keysN n := by unfold rangeL keysN; simp
theorem rangeOf_n {n : Nat} (h : n ≤ 1000000) : rangeOf [.int n] = some (keysN n) := by
  show (if -1000000 ≤ (n : Int) ∧ (n : Int) ≤ 1000000 then some (rangeL 0 1 (n : Int).toNat) else none) = _
  rw [if_pos (by (first | lia | omega)), ← rangeL_keys]; rfl
noncomputable def hgt (hs : List Int) (k : Int) : Int := (hs[k.toNat]?).getD 0
theorem item_list {σ : St} {a : Addr} {l : List AV} {k : Int} {v : AV} (h : σ.hp a = some (.list l)) (h0 : 0 ≤ k) (h1 : l[k.toNat]? = some v) : σ.item a k = some v := by
  unfold St.item; rw [h]
  obtain ⟨hl, _⟩ := List.getElem?_eq_some_iff.mp h1
  have : seqIndex? k l.length = some k.toNat := by
    unfold seqIndex?
    simp only [if_neg (by (first | lia | omega) : ¬ k < 0)]
    rw [if_pos (by simp only [Bool.and_eq_true, decide_eq_true_eq]; (first | lia | omega))]
  simp only
  rw [this]
  exact h1
theorem lst_flist {σ : St} {a : Addr} {l : List AV} (h : σ.hp a = some (.flist l)) : σ.lst a = some l := by unfold St.lst; rw [h]
section
variable {n : Nat}
end
end
section
noncomputable abbrev Loc := Nat → Option AV
structure VR (α : Type) where
  r : α → AV → AH → Prop
  m : ∀ {x v hp hp'}, Ext hp hp' → r x v hp → r x v hp'
structure Gr (hb hp hb' hp' : AH) : Prop where
  b : Ext hb hb'
  e : Ext hp hp'
  s : Ext hb' hp'
  n : ∀ a, hb a = none → hp a ≠ none → hb' a = none
theorem Gr.refl {hb hp : AH} (s : Ext hb hp) : Gr hb hp hb hp := ⟨Ext.refl _, Ext.refl _, s, fun _ h _ => h⟩
theorem Gr.trans {hb hp hb' hp' hb2 hp2 : AH} (g : Gr hb hp hb' hp') (h : Gr hb' hp' hb2 hp2) : Gr hb hp hb2 hp2 := ⟨g.b.trans h.b, g.e.trans h.e, h.s, fun a h1 h2 => h.n a (g.n a h1 h2) (g.e.some h2)⟩
theorem Gr.new {hb hp : AH} {a : Addr} (s : Ext hb hp) (o : AObj) (h : hp a = none) : Gr hb hp (upd hb a o) (upd hp a o) :=
  ⟨Ext.new o (s.none h), Ext.new o h, fun c o' e => by
    by_cases q : c = a
    · rw [q, upd_self] at e ⊢; exact e
    · rw [upd_ne q] at e ⊢; exact s _ _ e, fun c h1 h2 => by
    have q : c ≠ a := fun q => h2 (by rw [q]; exact h)
    rw [upd_ne q]; exact h1⟩
noncomputable def uni (h1 h2 : AH) : AH := fun a => match h1 a with
  | some o => some o
  | none => h2 a
theorem uni_l {h1 h2 : AH} : Ext h1 (uni h1 h2) := fun a o e => by unfold uni; rw [e]
theorem uni_r {h1 h2 hp : AH} (e1 : Ext h1 hp) (e2 : Ext h2 hp) : Ext h2 (uni h1 h2) := fun a o e => by
  unfold uni
  cases h : h1 a with
  | none => exact e
  | some o' => have := e1 _ _ h; rw [e2 _ _ e] at this; exact this.symm ▸ rfl
theorem uni_s {h1 h2 hp : AH} (e1 : Ext h1 hp) (e2 : Ext h2 hp) : Ext (uni h1 h2) hp := fun a o e => by
  unfold uni at e
  cases h : h1 a with
  | none => rw [h] at e; exact e2 _ _ e
  | some o' => rw [h] at e; cases e; exact e1 _ _ h
theorem Gr.more {hb hp hb' hp' hb2 : AH} (g : Gr hb hp hb' hp') (e : Ext hb hb2) (s : Ext hb2 hp) : Gr hb2 hp (uni hb2 hb') hp' ∧ Ext hb' (uni hb2 hb') :=
  ⟨⟨uni_l, g.e, uni_s (s.trans g.e) g.s, fun a h1 h2 => by unfold uni; rw [h1]; exact g.n a (e.none h1) h2⟩, uni_r (s.trans g.e) g.s⟩
noncomputable def VI : VR Int := ⟨fun n v _ => v = .int n, fun _ h => h⟩
noncomputable def VB : VR Bool := ⟨fun n v _ => v = .bool n, fun _ h => h⟩
section
variable {α β γ : Type}
noncomputable def All2 (R : VR α) : List α → List AV → AH → Prop
  | [], [], _ => True
  | x :: l, v :: vs, hp => R.r x v hp ∧ All2 R l vs hp
  | _, _, _ => False
theorem All2.nil_inv {R : VR α} {vs : List AV} {hp : AH} (h : All2 R [] vs hp) : vs = [] := by
  cases vs with
  | nil => rfl
  | cons => exact h.elim
theorem All2.cons_inv {R : VR α} {x : α} {l : List α} {vs : List AV} {hp : AH} (h : All2 R (x :: l) vs hp) : ∃ v vs', vs = v :: vs' ∧ R.r x v hp ∧ All2 R l vs' hp := by
  cases vs with
  | nil => exact h.elim
  | cons v vs => exact ⟨v, vs, rfl, h.1, h.2⟩
theorem All2.ext {R : VR α} {hp hp' : AH} (e : Ext hp hp') {l : List α} : ∀ {vs : List AV}, All2 R l vs hp → All2 R l vs hp' := by
  induction l with
  | nil => intro vs h; cases h.nil_inv; trivial
  | cons x l ih => intro vs h; obtain ⟨v, vs, rfl, h1, h2⟩ := h.cons_inv; exact ⟨R.m e h1, ih h2⟩
theorem All2.len {R : VR α} {hp : AH} {l : List α} : ∀ {vs : List AV}, All2 R l vs hp → vs.length = l.length := by
  induction l with
  | nil => intro vs h; cases h.nil_inv; rfl
  | cons x l ih => intro vs h; obtain ⟨v, vs, rfl, h1, h2⟩ := h.cons_inv; exact congrArg (· + 1) (ih h2)
theorem All2.append {R : VR α} {hp : AH} {l l' : List α} {vs' : List AV} (h' : All2 R l' vs' hp) : ∀ {vs : List AV}, All2 R l vs hp → All2 R (l ++ l') (vs ++ vs') hp := by
  induction l with
  | nil => intro vs h; cases h.nil_inv; exact h'
  | cons x l ih => intro vs h; obtain ⟨v, vs, rfl, h1, h2⟩ := h.cons_inv; exact ⟨h1, ih h2⟩
theorem All2.get {R : VR α} {hp : AH} {l : List α} : ∀ {vs : List AV} {i : Nat} {x : α}, All2 R l vs hp → l[i]? = some x → ∃ v, vs[i]? = some v ∧ R.r x v hp := by
  induction l with
  | nil => intro vs i x h e; cases e
  | cons y l ih =>
    intro vs i x h e
    obtain ⟨v, vs, rfl, h1, h2⟩ := h.cons_inv
    cases i with
    | zero => cases e; exact ⟨v, rfl, h1⟩
    | succ i => exact ih (vs := vs) (i := i) h2 e
theorem All2.get' {R : VR α} {hp : AH} {l : List α} : ∀ {vs : List AV} {i : Nat} {v : AV}, All2 R l vs hp → vs[i]? = some v → ∃ x, l[i]? = some x ∧ R.r x v hp := by
  induction l with
  | nil => intro vs i v h e; cases h.nil_inv; cases e
  | cons y l ih =>
    intro vs i x h e
    obtain ⟨v, vs, rfl, h1, h2⟩ := h.cons_inv
    cases i with
    | zero => cases e; exact ⟨y, rfl, h1⟩
    | succ i => exact ih (vs := vs) (i := i) h2 e
theorem All2.ints {hp : AH} {l : List Int} : ∀ {vs : List AV}, All2 VI l vs hp ↔ vs = intsA l := by
  induction l with
  | nil => intro vs; exact ⟨fun h => h.nil_inv, fun h => h ▸ trivial⟩
  | cons x l ih =>
    intro vs
    refine ⟨fun h => ?_, fun h => h ▸ ⟨rfl, ih.mpr rfl⟩⟩
    obtain ⟨v, vs, rfl, rfl, h2⟩ := h.cons_inv
    rw [ih.mp h2]; rfl
noncomputable def VL (R : VR α) : VR (List α) := ⟨fun l v hp => ∃ a vs, v = .ref a ∧ hp a = some (.list vs) ∧ All2 R l vs hp, fun e ⟨a, vs, h1, h2, h3⟩ => ⟨a, vs, h1, e _ _ h2, h3.ext e⟩⟩
noncomputable def VP (R : VR α) (S : VR β) : VR (α × β) := ⟨fun p v hp => ∃ a u w, v = .ref a ∧ hp a = some (.tup [u, w]) ∧ R.r p.1 u hp ∧ S.r p.2 w hp, fun e ⟨a, u, w, h1, h2, h3, h4⟩ => ⟨a, u, w, h1, e _ _ h2, R.m e h3, S.m e h4⟩⟩
noncomputable abbrev VII : VR (Int × Int) := VP VI VI
theorem vl_ints {l : List Int} {v : AV} {hp : AH} : (VL VI).r l v hp ↔ ∃ a, v = .ref a ∧ hp a = some (.list (intsA l)) := by
  constructor
  · rintro ⟨a, vs, h1, h2, h3⟩; exact ⟨a, h1, by rw [← All2.ints.mp h3]; exact h2⟩
  · rintro ⟨a, h1, h2⟩; exact ⟨a, _, h1, h2, All2.ints.mpr rfl⟩
noncomputable def Z (p : EP) (R : VR α) (x : α) (lo : Loc) (hb : AH) : Prop := ∀ hp, Ext hb hp → ∀ (Q : AV → St → Prop) (E : Ex → St → Prop), (∀ hb' hp' v, Gr hb hp hb' hp' → R.r x v hb' → Q v ⟨lo, hp'⟩) → p Q E ⟨lo, hp⟩
noncomputable def ZT (t : TP) (b : Bool) (lo : Loc) (hb : AH) : Prop := ∀ hp, Ext hb hp → ∀ (Q : Bool → St → Prop) (E : Ex → St → Prop), (∀ hb' hp', Gr hb hp hb' hp' → Q b ⟨lo, hp'⟩) → t Q E ⟨lo, hp⟩
noncomputable def ZI (q : LP) (R : VR α) (xs : List α) (lo : Loc) (hb : AH) : Prop := ∀ hp, Ext hb hp → ∀ (Q : List AV → St → Prop) (E : Ex → St → Prop), (∀ hb' hp' vs, Gr hb hp hb' hp' → All2 R xs vs hb' → Q vs ⟨lo, hp'⟩) → q Q E ⟨lo, hp⟩
noncomputable def ZS (p : IP) (R : VR α) (l : List α) (lo : Loc) (hb : AH) : Prop := ∀ hp, Ext hb hp → ∀ (Q : List AV → (St → Prop) → St → Prop) (E : Ex → St → Prop), (∀ hb' hp' vs (guard : St → Prop), Gr hb hp hb' hp' → All2 R l vs hb' → (∀ σ : St, Ext hb' σ.hp → guard σ) → Q vs guard ⟨lo, hp'⟩) → p Q E ⟨lo, hp⟩
noncomputable def ZC (c : CP) (R : VR β) (ys : List β) (L : Loc → Prop) (lo : Loc) (hb : AH) : Prop := ∀ hp, Ext hb hp → ∀ (acc : List AV) (Q : List AV → St → Prop), acc.length + ys.length < 1000000 → (∀ lo2 hb' hp' vs, L lo2 → Gr hb hp hb' hp' → All2 R ys vs hb' → Q (acc ++ vs) ⟨lo2, hp'⟩) → c Q acc ⟨lo, hp⟩
variable {p q : EP} {t t' : TP} {R : VR α} {S : VR β} {x y : Int} {lo : Loc} {hb hb2 hp : AH} {i j n : Nat} {a b : Addr} {v : AV} {l m : List Int} {c c' : Bool}
theorem Z.ext {x : α} (h : Z p R x lo hb) (e : Ext hb hb2) : Z p R x lo hb2 := fun hp s Q E k => h hp (e.trans s) Q E fun hb' hp' v g hv => by
  obtain ⟨g2, e2⟩ := g.more e s
  exact k _ _ v g2 (R.m e2 hv)
theorem ZI.ext {r : LP} {xs : List α} (h : ZI r R xs lo hb) (e : Ext hb hb2) : ZI r R xs lo hb2 := fun hp s Q E k => h hp (e.trans s) Q E fun hb' hp' v g hv => by
  obtain ⟨g2, e2⟩ := g.more e s
  exact k _ _ v g2 (hv.ext e2)
theorem z_name {x : α} (h : lo i = some v) (hr : R.r x v hb) : Z (pName i) R x lo hb := fun hp s Q E k => ⟨_, h, k _ _ _ (.refl s) hr⟩
theorem z_nameI (h : lo i = some (.int x)) : Z (pName i) VI x lo hb := z_name h rfl
theorem z_nameL (h : lo i = some (.ref a)) (ha : hb a = some (.list (intsA l))) : Z (pName i) (VL VI) l lo hb := z_name h (vl_ints.mpr ⟨a, rfl, ha⟩)
theorem z_int : Z (pInt x) VI x lo hb := fun hp s Q E k => k _ _ _ (.refl s) rfl
theorem z_bin {γ : Type} {R' : VR γ} {x : α} {y : β} {z : γ} {f : AV → AV → EP} (h1 : Z p R x lo hb) (h2 : Z q S y lo hb)
    (h : ∀ hb1 hp1 u w (Q : AV → St → Prop) (E : Ex → St → Prop), Ext hb1 hp1 → R.r x u hb1 → S.r y w hb1 → (∀ hb2 hp2 v, Gr hb1 hp1 hb2 hp2 → R'.r z v hb2 → Q v ⟨lo, hp2⟩) → f u w Q E ⟨lo, hp1⟩) : Z (pBin f p q) R' z lo hb := fun hp s Q E k =>
  h1 hp s _ _ fun hb2 hp2 u g hu => (h2.ext g.b) hp2 g.s _ _ fun hb3 hp3 w g3 hw => h hb3 hp3 u w Q E g3.s (R.m g3.b hu) hw fun hb4 hp4 v g4 hv => k hb4 hp4 v (g.trans (g3.trans g4)) hv
theorem z_add (h1 : Z p VI x lo hb) (h2 : Z q VI y lo hb)  : Z (pBin opAdd p q) VI (x + y) lo hb := z_bin h1 h2 (by rintro hb1 hp1 _ _ Q E s rfl rfl k; exact k _ _ _ (.refl s) rfl)
theorem z_sub (h1 : Z p VI x lo hb) (h2 : Z q VI y lo hb)  : Z (pBin opSub p q) VI (x - y) lo hb := z_bin h1 h2 (by rintro hb1 hp1 _ _ Q E s rfl rfl k; exact k _ _ _ (.refl s) rfl)
theorem z_mul (h1 : Z p VI x lo hb) (h2 : Z q VI y lo hb) (h : x.natAbs < 2 ^ 60 ∨ y.natAbs < 2 ^ 60) : Z (pBin opMul p q) VI (x * y) lo hb := z_bin h1 h2 (by rintro hb1 hp1 _ _ Q E s rfl rfl k; exact ⟨h, k _ _ _ (.refl s) rfl⟩)
theorem z_div (h1 : Z p VI x lo hb) (h2 : Z q VI y lo hb) (h : 0 < y) (h' : y < 1073741824) : Z (pBin opDiv p q) VI (x / y) lo hb := z_bin h1 h2 (by rintro hb1 hp1 _ _ Q E s rfl rfl k; exact ⟨h, h', k _ _ _ (.refl s) rfl⟩)
theorem z_mod (h1 : Z p VI x lo hb) (h2 : Z q VI y lo hb) (h : 0 < y) : Z (pBin opMod p q) VI (x % y) lo hb := z_bin h1 h2 (by rintro hb1 hp1 _ _ Q E s rfl rfl k; exact ⟨h, k _ _ _ (.refl s) rfl⟩)
theorem z_neg (h1 : Z p VI x lo hb) : Z (pUn opNeg p) VI (-x) lo hb := fun hp s Q E k => h1 hp s _ _ fun hb2 hp2 u g hu => by cases hu; exact k _ _ _ g rfl
theorem z_gt (h1 : Z p VI x lo hb) (h2 : Z q VI y lo hb) : Z (pBin opGt p q) VB (decide (y < x)) lo hb := z_bin h1 h2 (by rintro hb1 hp1 _ _ Q E s rfl rfl k; exact k _ _ _ (.refl s) rfl)
theorem z_ge (h1 : Z p VI x lo hb) (h2 : Z q VI y lo hb) : Z (pBin opGe p q) VB (decide (y ≤ x)) lo hb := z_bin h1 h2 (by rintro hb1 hp1 _ _ Q E s rfl rfl k; exact k _ _ _ (.refl s) rfl)
theorem z_neL (h1 : Z p (VL VI) l lo hb) (h2 : Z q (VL VI) m lo hb) : Z (pBin opNe p q) VB (!decide (l = m)) lo hb := z_bin h1 h2 (by
  rintro hb1 hp1 _ _ Q E s h3 h4 k
  obtain ⟨a, rfl, ha⟩ := vl_ints.mp h3
  obtain ⟨b, rfl, hb⟩ := vl_ints.mp h4
  exact ⟨_, _, lst_of (s _ _ ha), lst_of (s _ _ hb), k _ _ _ (.refl s) rfl⟩)
theorem z_item {xs : List α} {x : α} (h1 : Z p (VL R) xs lo hb) (h2 : Z q VI y lo hb) (h0 : 0 ≤ y) (hx : xs[y.toNat]? = some x) : Z (pBin opItem p q) R x lo hb := z_bin h1 h2 (by
  rintro hb1 hp1 _ _ Q E s ⟨a, vs, rfl, ha, h3⟩ rfl k
  obtain ⟨v, hv, hr⟩ := h3.get hx
  exact ⟨v, item_list (s _ _ ha) h0 hv, k _ _ _ (.refl s) hr⟩)
theorem zt_bool (h : Z p VB c lo hb) : ZT (tOf p) c lo hb := fun hp s Q E k => h hp s _ _ fun hb2 hp2 v g hv => by cases hv; exact k _ _ g
theorem z_cast {x y : α} (h : Z p R x lo hb) (e : x = y) : Z p R y lo hb := e ▸ h
theorem zi_nil : ZI lNil R [] lo hb := fun hp s Q E k => k _ _ _ (.refl s) trivial
theorem zi_cons {q : LP} {x : α} {xs : List α} (h1 : Z p R x lo hb) (h2 : ZI q R xs lo hb) : ZI (lCons p q) R (x :: xs) lo hb := fun hp s Q E k =>
  h1 hp s _ _ fun hb2 hp2 v g hv => (h2.ext g.b) hp2 g.s _ _ fun hb3 hp3 vs g3 hvs => k _ _ _ (g.trans g3) ⟨R.m g3.b hv, hvs⟩
theorem z_list {q : LP} {xs : List α} (h : ZI q R xs lo hb) (hz : xs.length ≤ 1000000) : Z (pList q) (VL R) xs lo hb := fun hp s Q E k =>
  h hp s _ _ fun hb2 hp2 vs g hvs => ⟨by rw [hvs.len]; exact hz, fun a za => by
    have g2 := Gr.new g.s (.list vs) za
    exact k _ _ _ (g.trans g2) ⟨a, vs, rfl, upd_self .., hvs.ext g2.b⟩⟩
theorem z_len {xs : List α} (h : Z p (VL R) xs lo hb) : Z (pBi opLen (lCons p lNil)) VI xs.length lo hb := fun hp s Q E k =>
  h hp s _ _ fun hb2 hp2 u g hu => by obtain ⟨a, vs, rfl, ha, hr⟩ := hu; exact .inl ⟨vs, lst_of (g.s _ _ ha), k _ _ _ g (by rw [hr.len]; rfl)⟩
theorem z_min (h : Z p (VL VI) l lo hb) (hx : x ∈ l) (hm : ∀ y ∈ l, x ≤ y) : Z (pBi opMin2 (lCons p lNil)) VI x lo hb := fun hp s Q E k =>
  h hp s _ _ fun hb2 hp2 u g hu => by
    obtain ⟨a, rfl, ha⟩ := vl_ints.mp hu
    exact ⟨l, lst_of (g.s _ _ ha), fun q => (by rw [q] at hx; cases hx), fun z hz hz' => k _ _ _ g (congrArg _ (Int.le_antisymm (hz' x hx) (hm z hz)))⟩
theorem zs_list {xs : List α} (h : Z p (VL R) xs lo hb) : ZS (iSeq p) R xs lo hb := fun hp s Q E k =>
  h hp s _ _ fun hb2 hp2 v g hv => by
    obtain ⟨a, vs, rfl, ha, hr⟩ := hv
    exact ⟨a, rfl, .inl ⟨_, lst_of (g.s _ _ ha), k _ _ _ _ g hr fun σ eσ => lst_of (eσ _ _ ha)⟩⟩
theorem zs_range (h : Z p VI n lo hb) (hn : n ≤ 1000000) : ZS (iRange (lCons p lNil)) VI (keysN n) lo hb := fun hp s Q E k =>
  h hp s _ _ fun hb2 hp2 v g hv => by cases hv; exact ⟨_, rangeOf_n hn, k _ _ _ _ g (All2.ints.mpr rfl) fun _ _ => trivial⟩
end
end
section
section
variable {α β γ : Type} {p q : EP} {t : TP} {R : VR α} {S : VR β} {lo : Loc} {hb hp : AH} {i j n : Nat} {a : Addr} {v : AV} {c : Bool} {C : CP} {L : Loc → Prop} {tgt : AV → SP} {src : IP} {mm : List (Option Nat)} {Q : Fl → St → Prop} {E : Ex → St → Prop}
theorem zc_emit {y : β} (h : Z p S y lo hb) (hL : L lo) : ZC (cEmit p) S [y] L lo hb := fun hp s acc Q hz k =>
  h hp s _ _ fun hb2 hp2 v g hv => ⟨Nat.lt_of_succ_lt hz, k lo _ hp2 [v] hL g ⟨hv, trivial⟩⟩
theorem ZC.ext {ys : List β} {hb2 : AH} (h : ZC C S ys L lo hb) (e : Ext hb hb2) : ZC C S ys L lo hb2 := fun hp s acc Q hz k => h hp (e.trans s) acc Q hz fun lo2 hb' hp' vs hL g hv => by
  obtain ⟨g2, e2⟩ := g.more e s
  exact k lo2 _ _ vs hL g2 (hv.ext e2)
theorem zc_test {ys : List β} (ht : ZT t c lo hb) (h : c = true → ZC C S ys L lo hb) (hL : L lo) : ZC (cTest (some t) C) S (if c then ys else []) L lo hb := fun hp s acc Q hz k =>
  ht hp s _ _ fun hb2 hp2 g => by
    cases c with
    | true => exact ((h rfl).ext g.b) hp2 g.s acc Q hz fun lo2 hb3 hp3 vs h1 g3 h2 => k lo2 _ hp3 vs h1 (g.trans g3) h2
    | false => have := k lo _ hp2 [] hL g trivial; rw [List.append_nil] at this; exact this
noncomputable def ZK (tgt : AV → SP) (C : CP) (S : VR β) (ys : List β) (L : Loc → Prop) (v : AV) (lo : Loc) (hb : AH) : Prop := ∀ hp, Ext hb hp → ∀ (acc : List AV) (Q : List AV → St → Prop), acc.length + ys.length < 1000000 → (∀ lo2 hb' hp' vs, L lo2 → Gr hb hp hb' hp' → All2 S ys vs hb' → Q (acc ++ vs) ⟨lo2, hp'⟩) → tgt v (fun _ σ₂ => C Q acc σ₂) noX ⟨lo, hp⟩
theorem zk_name {ys : List β} (h : ZC C S ys L (setv lo i v) hb) : ZK (aName i) C S ys L v lo hb := h
theorem take_flat {xs : List α} {f : α → List β} {x : α} (h : xs[i]? = some x) : (xs.take (i + 1)).flatMap f = (xs.take i).flatMap f ++ f x := by
  rw [List.take_add_one, h, List.flatMap_append]; simp
theorem take_flat_le (xs : List α) (f : α → List β) (i : Nat) : ((xs.take i).flatMap f).length ≤ (xs.flatMap f).length := by
  have h := congrArg (fun l => (l.flatMap f).length) (List.take_append_drop i xs)
  simp only [List.flatMap_append, List.length_append] at h
  (first | lia | omega)
theorem zc_loop {vs : List AV} {xs : List α} {guard : St → Prop} {f : α → List β} (hx : All2 R xs vs hb) (hg : ∀ σ : St, Ext hb σ.hp → guard σ) (hL : L lo)
    (hs : ∀ x ∈ xs, ∀ v hb1 lo', L lo' → Ext hb hb1 → R.r x v hb1 → ZK tgt C S (f x) L v lo' hb1) : ZC (cLoop vs guard tgt C) S (xs.flatMap f) L lo hb := fun hp s acc Q hz k => by
  refine ⟨fun i acc' σ => i ≤ xs.length ∧ L σ.loc ∧ ∃ hb1 ws, Gr hb hp hb1 σ.hp ∧ acc' = acc ++ ws ∧ All2 S ((xs.take i).flatMap f) ws hb1, ⟨Nat.zero_le _, hL, hb, [], .refl s, (List.append_nil _).symm, trivial⟩, ?_⟩
  rintro i acc' ⟨lo', hp2⟩ ⟨hi, hl, hb1, ws, g, rfl, hw⟩
  refine ⟨hg _ (g.b.trans g.s), ?_⟩
  cases hv : vs[i]? with
  | none =>
    have h1 : vs.length ≤ i := List.getElem?_eq_none_iff.mp hv
    rw [hx.len] at h1
    rw [List.take_of_length_le h1] at hw
    exact k lo' hb1 hp2 ws hl g hw
  | some v =>
    obtain ⟨x, h1, h2⟩ := (hx.ext g.b).get' hv
    have h3 := take_flat (f := f) h1
    have h4 := take_flat_le xs f (i + 1)
    refine hs x (List.mem_of_getElem? h1) v hb1 lo' hl g.b h2 hp2 g.s _ _ ?_ fun lo2 hb3 hp3 us g1 g2 g3 => ⟨?_, g1, hb3, ws ++ us, g.trans g2, List.append_assoc .., ?_⟩
    · rw [h3, List.length_append] at h4
      rw [List.length_append, hw.len]; (first | lia | omega)
    · obtain ⟨q, _⟩ := List.getElem?_eq_some_iff.mp h1; exact q
    · rw [h3]; exact g3.append (hw.ext g2.b)
theorem flat_one (xs : List α) (f : α → β) : (xs.flatMap fun x => [f x]) = xs.map f := by
  induction xs with
  | nil => rfl
  | cons a l ih => rw [List.flatMap_cons, ih]; rfl
theorem flat_if (xs : List α) (b : α → Bool) (f : α → β) : (xs.flatMap fun x => if b x then [f x] else []) = (xs.filter b).map f := by
  induction xs with
  | nil => rfl
  | cons a l ih =>
    rw [List.flatMap_cons, ih, List.filter_cons]
    cases b a <;> rfl
theorem setv_twice (lo : Loc) (i : Nat) (v w : AV) : setv (setv lo i v) i w = setv lo i w := by
  funext j; unfold setv; split <;> rfl
-- statements
theorem s_if {A B : SP} (h : ZT t c lo hb) (s : Ext hb hp) (h1 : c = true → ∀ hb' hp', Gr hb hp hb' hp' → A Q E ⟨lo, hp'⟩) (h2 : c = false → ∀ hb' hp', Gr hb hp hb' hp' → B Q E ⟨lo, hp'⟩) : (sIf t A B) Q E ⟨lo, hp⟩ := h hp s _ _ fun hb2 hp2 g => by
  cases c with
  | true => exact h1 rfl _ _ g
  | false => exact h2 rfl _ _ g
theorem s_next {A B : SP} (h : A (fun fl σ => match fl with | .next => B Q E σ | fl => Q fl σ) E ⟨lo, hp⟩) : (sSeq A B) Q E ⟨lo, hp⟩ := h
noncomputable def loopK (J : Loc → AH → Prop) (Q : Fl → St → Prop) : Fl → St → Prop := fun fl σ => match fl with
  | .next => J σ.loc σ.hp
  | .cont => J σ.loc σ.hp
  | .brk => Q .next σ
  | .ret v => Q (.ret v) σ
theorem s_for {xs : List α} {body : SP} (Z : ZS src R xs lo hb) (s : Ext hb hp) (k : ∀ hb' hp', Gr hb hp hb' hp' → ∃ J : Nat → Loc → AH → Prop, J 0 lo hp' ∧ (∀ i lo2 hp2, J i lo2 hp2 → Ext hb' hp2) ∧
      (∀ i x v lo2 hp2, xs[i]? = some x → R.r x v hb' → J i lo2 hp2 → tgt v (fun _ σ₂ => body (loopK (J (i + 1)) Q) E σ₂) E ⟨lo2, hp2⟩) ∧ (∀ lo2 hp2, J xs.length lo2 hp2 → Q .next ⟨lo2, hp2⟩)) : (sFor src tgt body) Q E ⟨lo, hp⟩ := by
  refine Z hp s _ _ fun hb2 hp2 vs guard g hx hg => ?_
  obtain ⟨J, h0, hJ, hs, hq⟩ := k hb2 hp2 g
  refine ⟨fun i σ => i ≤ xs.length ∧ J i σ.loc σ.hp, ⟨Nat.zero_le _, h0⟩, ?_⟩
  rintro i ⟨lo', hp3⟩ ⟨hi, hj⟩
  refine ⟨hg _ (hJ _ _ _ hj), ?_⟩
  cases hv : vs[i]? with
  | none =>
    have h1 : vs.length ≤ i := List.getElem?_eq_none_iff.mp hv
    rw [hx.len] at h1
    cases Nat.le_antisymm hi h1
    exact hq lo' hp3 hj
  | some v =>
    obtain ⟨x, h1, h2⟩ := hx.get' hv
    obtain ⟨q, _⟩ := List.getElem?_eq_some_iff.mp h1
    have e : (fun (fl : Fl) (σ₃ : St) => (match fl with | .next => i + 1 ≤ xs.length ∧ J (i + 1) σ₃.loc σ₃.hp | .cont => i + 1 ≤ xs.length ∧ J (i + 1) σ₃.loc σ₃.hp | .brk => Q .next σ₃ | .ret v => Q (.ret v) σ₃ : Prop)) = loopK (J (i + 1)) Q := by
      funext fl σ₃
      cases fl with
      | next => exact propext ⟨fun h => h.2, fun h => ⟨q, h⟩⟩
      | cont => exact propext ⟨fun h => h.2, fun h => ⟨q, h⟩⟩
      | brk => rfl
      | ret v => rfl
    have h3 := hs i x v lo' hp3 h1 h2 hj
    rw [← e] at h3
    exact h3
end
end
section
section
variable {α β γ : Type} {p q : EP} {t : TP} {R : VR α} {S : VR β} {lo : Loc} {hb hp hb' hp' : AH} {i j n : Nat} {a l : Addr} {v : AV} {c : Bool} {Q : Fl → St → Prop} {E : Ex → St → Prop} {o : AObj} {vs : List AV} {x y : Int}
theorem s_append {x : α} (hi : lo i = some (.ref l)) (hl : hp l = some (.list vs)) (hz : vs.length < 1000000) (h : Z p R x lo hb) (s : Ext hb hp) (k : ∀ hb' hp' v, Gr hb hp hb' hp' → R.r x v hb' → Q .next ⟨lo, upd hp' l (.list (vs ++ [v]))⟩) : (sExpr (pBm "list" opAppend (pName i) (lCons p lNil))) Q E ⟨lo, hp⟩ :=
  ⟨_, hi, ⟨l, _, rfl, hl, rfl⟩, h hp s _ _ fun hb2 hp2 v g hv => ⟨_, g.e _ _ hl, hz, k _ hp2 v g hv⟩⟩
theorem intsA_set (ns : List Int) (i : Nat) (x : Int) : intsA (ns.set i x) = (intsA ns).set i (.int x) := List.map_set ..
-- sorters
structure Bas (h0 hb hp : AH) (own : Addr → Prop) (x : Addr) : Prop where
  e0 : Ext h0 hp
  s : Ext hb hp
  o0 : ∀ a, own a → h0 a = none
  ob : ∀ a, own a → hb a = none
  x0 : h0 x = none
  xb : hb x = none
  xo : ¬ own x
variable {h0 h1 : AH} {X : Addr} {keys : List Int} {cnt : Int → Int} {succ : Int → List Int} {don out : Int → Bool} {Rs : List Int}
theorem Frm.base {own own' : Addr → Prop} (F : Frm hp own hp' own') (s : Ext hb hp) (h : ∀ a, own a → hb a = none) : Ext hb hp' ∧ ∀ a, own' a → hb a = none := by
  have h1 : ∀ a o, hb a = some o → hp' a = some o ∧ ¬ own' a := fun a o e => F a o (s _ _ e) fun q => by have := h a q; rw [e] at this; cases this
  refine ⟨fun a o e => (h1 a o e).1, fun a q => ?_⟩
  cases e : hb a with
  | none => rfl
  | some o => exact absurd q (h1 a o e).2
theorem Bas.frm {own own' : Addr → Prop} (B : Bas h0 hb hp own X) (F : Frm hp own hp' own') (hx : hp X = some o) : Bas h0 hb hp' own' X :=
  ⟨(F.base B.e0 B.o0).1, (F.base B.s B.ob).1, (F.base B.e0 B.o0).2, (F.base B.s B.ob).2, B.x0, B.xb, (F _ _ hx B.xo).2⟩
noncomputable def Bld (h0 hb hp : AH) (x : Addr) (keys : List Int) (cnt : Int → Int) (succ : Int → List Int) : Prop := ∃ own d n2i rec suc, Srt hp own x d n2i rec suc keys cnt succ .none 0 0 ∧ Bas h0 hb hp own x
noncomputable def Rn (h0 hb hp : AH) (x : Addr) (keys : List Int) (succ : Int → List Int) (don out : Int → Bool) (Rs : List Int) : Prop := ∃ own d n2i rec suc rl, Run hp own x d n2i rec suc keys succ don out rl Rs ∧ Bas h0 hb hp own x
theorem Bld.s (B : Bld h0 hb hp X keys cnt succ) : Ext hb hp := by obtain ⟨own, d, n2i, rec, suc, S, b⟩ := B; exact b.s
theorem Rn.s (B : Rn h0 hb hp X keys succ don out Rs) : Ext hb hp := by obtain ⟨own, d, n2i, rec, suc, rl, r, b⟩ := B; exact b.s
theorem Bld.inst {lo : Loc} (B : Bld h0 hb hp X keys cnt succ) : isInst ⟨lo, hp⟩ (.ref X) X := by
  obtain ⟨own, d, n2i, rec, suc, S, b⟩ := B
  exact ⟨rfl, d, S.hx, isSd_of S.hd⟩
theorem Rn.inst {lo : Loc} (B : Rn h0 hb hp X keys succ don out Rs) : isInst ⟨lo, hp⟩ (.ref X) X := by
  obtain ⟨own, d, n2i, rec, suc, rl, r, b⟩ := B
  exact ⟨rfl, d, r.S.hx, isSd_of r.S.hd⟩
theorem b_new {Q : AV → St → Prop} {E : Ex → St → Prop} (s : Ext hb hp) (e : Ext h0 hp) (k : ∀ hp' x, Bld h0 hb hp' x [] (fun _ => 0) (fun _ => []) → Ext hp hp' → Q (.ref x) ⟨lo, hp'⟩) : (pNewS fp_sorter lNil) Q E ⟨lo, hp⟩ := by
  intro x d hx hd hxd
  exact sorter_spec hx hd hxd fun hp1 own n2i rec suc ex hown nx S => ⟨rfl, k hp1 x ⟨own, d, n2i, rec, suc, S, e.trans ex, s.trans ex, fun a ha => e.none (hown a ha), fun a ha => s.none (hown a ha), e.none hx, s.none hx, nx⟩ ex⟩
theorem b_add {Q : AV → AH → Prop} {E : Ex → AH → Prop} {k : Int} {ps : List Int} (B : Bld h0 hb hp X keys cnt succ) (hz : keys.length + ps.length < 999990) (hz2 : ∀ p, (succ p).length + ps.length < 1000000)
    (h : ∀ hp', Bld h0 hb hp' X (addKeys (insK keys k) ps) (setI cnt k (cnt k + ps.length)) (addSucc succ ps k) → Q .none hp') : fp_add (.ref X :: .int k :: intsA ps) Q E hp := by
  obtain ⟨own, d, n2i, rec, suc, S, b⟩ := B
  exact add_spec S hz hz2 fun hp2 own2 rec2 suc2 S2 F => h hp2 ⟨own2, d, n2i, rec2, suc2, S2, b.frm F S.hx⟩
theorem b_prep {Q : AV → AH → Prop} {E : Ex → AH → Prop} (B : Bld h0 hb hp X keys cnt succ) (hc : ∀ k ∈ keys, cnt k = ind keys succ (fun _ => false) k) (hsub : ∀ v ∈ keys, ∀ w ∈ succ v, w ∈ keys) (hz : keys.length < 1000)
    (k0 : ∀ hp' Rs, Rn h0 hb hp' X keys succ (fun _ => false) (fun _ => false) Rs → (∃ r : Int → Nat, ∀ v ∈ keys, ∀ w ∈ succ v, r w < r v) → Q .none hp')
    (k1 : ∀ hp' Rs, Rn h0 hb hp' X keys succ (fun _ => false) (fun _ => false) Rs → (∃ k ∈ keys, TC succ k k) → E .cycle hp') : fp_prepare [.ref X] Q E hp := by
  obtain ⟨own, d, n2i, rec, suc, S, b⟩ := B
  exact prep_spec S hc hsub hz (fun hp2 own2 rl R r F hr => k0 hp2 R ⟨own2, d, n2i, rec, suc, rl, r, b.frm F S.hx⟩ hr) fun hp2 own2 rl R r F hr => k1 hp2 R ⟨own2, d, n2i, rec, suc, rl, r, b.frm F S.hx⟩ hr
theorem r_ready {Q : AV → AH → Prop} {E : Ex → AH → Prop} (B : Rn h0 hb hp X keys succ don out Rs)
    (k : ∀ hp' t, hp t = none → Rn h0 (upd hb t (.tup (intsA Rs))) hp' X keys succ don (fun k => out k || decide (k ∈ Rs)) [] → Q (.ref t) hp') : fp_get_ready [.ref X] Q E hp := by
  obtain ⟨own, d, n2i, rec, suc, rl, r, b⟩ := B
  refine ready_spec r fun hp2 t r2 F ht ht2 => k hp2 t ht ?_
  have b2 := b.frm F r.S.hx
  have nt : ¬ own t := fun q => r.S.al t q ht
  refine ⟨own, d, n2i, rec, suc, rl, r2, { b2 with s := fun a o e => ?_, ob := fun a ha => ?_, xb := ?_ }⟩
  · by_cases q : a = t
    · rw [q, upd_self] at e; rw [q, ht2]; exact e
    · rw [upd_ne q] at e; exact b2.s _ _ e
  · have q : a ≠ t := fun q => nt (by rw [← q]; exact ha)
    rw [upd_ne q]; exact b.ob a ha
  · have q : X ≠ t := fun q => by have := r.S.hx; rw [q, ht] at this; cases this
    rw [upd_ne q]; exact b.xb
theorem Rn.mem (B : Rn h0 hb hp X keys succ don out Rs) {k : Int} : k ∈ Rs ↔ k ∈ keys ∧ don k = false ∧ out k = false ∧ ∀ v ∈ keys, k ∈ succ v → don v = true := by
  obtain ⟨own, d, n2i, rec, suc, rl, r, b⟩ := B
  exact r.pred
theorem Rn.nodup (B : Rn h0 hb hp X keys succ don out Rs) : Rs.Nodup := by
  obtain ⟨own, d, n2i, rec, suc, rl, r, b⟩ := B
  exact r.nd
theorem Rn.isOut (B : Rn h0 hb hp X keys succ don out Rs) {k : Int} (h : out k = true) : k ∈ keys ∧ don k = false ∧ ∀ v ∈ keys, k ∈ succ v → don v = true := by
  obtain ⟨own, d, n2i, rec, suc, rl, r, b⟩ := B
  obtain ⟨h1, h2, h3⟩ := r.ko k h
  exact ⟨h1, h2, ind_zero.mp h3⟩
end
end
section
noncomputable def succS (st : List (Int × Int)) (k : Int) : List Int := (st.filter (·.1 == k)).map (·.2)
theorem mem_succS {st : List (Int × Int)} {v k : Int} : k ∈ succS st v ↔ (v, k) ∈ st := by
  unfold succS
  rw [List.mem_map]
  constructor
  · rintro ⟨⟨a, b⟩, h, rfl⟩
    obtain ⟨h1, h2⟩ := List.mem_filter.mp h
    rw [← eq_of_beq h2]; exact h1
  · intro h; exact ⟨(v, k), List.mem_filter.mpr ⟨h, beq_self_eq_true v⟩, rfl⟩
noncomputable def cntS (st : List (Int × Int)) (k : Int) : Int := ((st.filter (·.2 == k)).length : Int)
theorem cntS_snoc {st : List (Int × Int)} {p : Int × Int} : cntS (st ++ [p]) = setI (cntS st) p.2 (cntS st p.2 + 1) := by
  funext k
  unfold cntS setI
  rw [List.filter_append, List.length_append]
  by_cases q : k = p.2
  · rw [if_pos q, q]; simp
  · rw [if_neg q]; simp [Ne.symm q]
theorem len_succS (st : List (Int × Int)) (k : Int) : (succS st k).length ≤ st.length := by
  unfold succS; rw [List.length_map]; exact List.length_filter_le ..
theorem sum_add (f g : Int → Nat) (l : List Int) : (l.map fun v => f v + g v).sum = (l.map f).sum + (l.map g).sum := by
  induction l with
  | nil => rfl
  | cons a l ih => simp only [List.map_cons, List.sum_cons, ih]; (first | lia | omega)
theorem sum_zero (l : List Int) : (l.map fun _ => 0).sum = 0 := by
  induction l with
  | nil => rfl
  | cons a l ih => simp only [List.map_cons, List.sum_cons, ih]
theorem sum_one {a : Int} (c : Nat) {l : List Int} (hn : l.Nodup) (ha : a ∈ l) : (l.map fun v => if v = a then c else 0).sum = c := by
  rw [sum_off hn ha, if_pos rfl]
  have : (l.map fun u => if u = a then 0 else if u = a then c else 0) = l.map fun _ => 0 := List.map_congr_left fun u _ => by split <;> rfl
  rw [this, sum_zero]; (first | lia | omega)
theorem cntS_ind {st : List (Int × Int)} {keys : List Int} (hn : keys.Nodup) (h : ∀ p ∈ st, p.1 ∈ keys) (k : Int) : cntS st k = ind keys (succS st) (fun _ => false) k := by
  have key : ∀ st : List (Int × Int), (∀ p ∈ st, p.1 ∈ keys) → (st.filter (·.2 == k)).length = (keys.map fun v => (succS st v).count k).sum := fun st => by
    induction st with
    | nil => intro _; exact (sum_zero keys).symm
    | cons p st ih =>
      intro h
      have h1 := ih fun q hq => h q (List.mem_cons_of_mem _ hq)
      have h2 : (keys.map fun v => (succS (p :: st) v).count k) = keys.map fun v => (if v = p.1 then (if p.2 = k then 1 else 0) else 0) + (succS st v).count k := List.map_congr_left fun v _ => by
        unfold succS
        rw [List.filter_cons]
        by_cases q : v = p.1
        · rw [if_pos (by simp [q]), if_pos q, List.map_cons, List.count_cons]
          simp only [beq_iff_eq]
          (first | lia | omega)
        · rw [if_neg (by simpa using Ne.symm q), if_neg q, Nat.zero_add]
      rw [h2, sum_add, sum_one _ hn (h p (List.mem_cons_self ..)), List.filter_cons, ← h1]
      by_cases q : p.2 = k
      · rw [if_pos (by simpa using q), if_pos q, List.length_cons]; (first | lia | omega)
      · rw [if_neg (by simpa using q), if_neg q]; (first | lia | omega)
  unfold cntS ind
  rw [key st h]
  rfl
section
variable {lo : Loc} {h0 hb hp : AH} {X : Addr} {n it ic iS iv i1 i2 : Nat} {Q : Fl → St → Prop} {E : Ex → St → Prop} {v : AV} {st : List (Int × Int)}
theorem setv_ne (lo : Loc) {i j : Nat} (v : AV) (h : j ≠ i) : setv lo i v j = lo j := if_neg h
theorem setv_self (lo : Loc) (i : Nat) (v : AV) : setv lo i v i = some v := if_pos rfl
end
end
section
section
variable {α : Type} {p q : EP} {t : TP} {lo : Loc} {hb hp : AH} {i n : Nat} {a : Addr} {x y : Int} {ns l : List Int} {mm : List (Option Nat)} {src : IP}
end
end
section
noncomputable def eH : AH := fun _ => none
theorem eH_ext {hp : AH} : Ext eH hp := fun _ _ h => by cases h
open Classical in
noncomputable def cutH (hp : AH) (own : Addr → Prop) (x : Addr) : AH := fun a => if own a ∨ a = x then hp a else none
section
variable {h0 hb hp w : AH} {X : Addr} {own : Addr → Prop} {a : Addr}
theorem cut_in (h : own a ∨ a = X) : cutH hp own X a = hp a := if_pos h
theorem cut_ext : Ext (cutH hp own X) hp := fun a o h => by
  unfold cutH at h
  split at h
  · exact h
  · cases h
theorem cut_own (h : cutH hp own X a ≠ none) : own a ∨ a = X := by
  unfold cutH at h
  split at h
  · assumption
  · exact absurd rfl h
theorem cut_frm : Frm hp (fun a => ¬ (own a ∨ a = X)) (cutH hp own X) (fun a => ¬ (own a ∨ a = X)) := fun a o e n => ⟨by rw [cut_in (Classical.not_not.mp n)]; exact e, n⟩
noncomputable def RS (w : AH) (x : Addr) (keys : List Int) (succ : Int → List Int) (don out : Int → Bool) (Rs : List Int) : Prop := ∃ own d n2i rec suc rl, Run w own x d n2i rec suc keys succ don out rl Rs ∧ ¬ own x
variable {keys : List Int} {succ : Int → List Int} {don out : Int → Bool} {Rs : List Int}
theorem Rn.cut (B : Rn h0 hb hp X keys succ don out Rs) : ∃ w, RS w X keys succ don out Rs ∧ Ext w hp ∧ ∀ a, w a ≠ none → hb a = none ∧ h0 a = none := by
  obtain ⟨own, d, n2i, rec, suc, rl, r, b⟩ := B
  refine ⟨cutH hp own X, ⟨own, d, n2i, rec, suc, rl, { r with S := r.S.frame cut_frm (fun a ha q => q (.inl ha)) fun q => q (.inr rfl), hrl := (cut_in (.inl r.orl)).trans r.hrl }, b.xo⟩, cut_ext, fun a ha => ?_⟩
  rcases cut_own ha with h | rfl
  · exact ⟨b.ob a h, b.o0 a h⟩
  · exact ⟨b.xb, b.x0⟩
theorem RS.put (B : RS w X keys succ don out Rs) (ew : Ext w hp) (s : Ext hb hp) (e0 : Ext h0 hp) (dj : ∀ a, w a ≠ none → hb a = none ∧ h0 a = none) : Rn h0 hb hp X keys succ don out Rs := by
  obtain ⟨own, d, n2i, rec, suc, rl, r, xo⟩ := B
  exact ⟨own, d, n2i, rec, suc, rl, r.ext ew, e0, s, fun a ha => (dj a (r.S.al a ha)).2, fun a ha => (dj a (r.S.al a ha)).1, (dj X (by rw [r.S.hx]; nofun)).2, (dj X (by rw [r.S.hx]; nofun)).1, xo⟩
noncomputable def rst (hp w : AH) : AH := fun a => match w a with
  | some _ => none
  | none => hp a
theorem rst_in (h : w a = none) : rst hp w a = hp a := by unfold rst; rw [h]
theorem rst_out (h : w a ≠ none) : rst hp w a = none := by
  unfold rst
  cases q : w a with
  | none => exact absurd q h
  | some o => rfl
theorem rst_ext : Ext (rst hp w) hp := fun a o h => by
  unfold rst at h
  split at h
  · cases h
  · exact h
theorem RS.all (B : RS w X keys succ don out Rs) (ew : Ext w hp) : Rn eH (rst hp w) hp X keys succ don out Rs := B.put ew rst_ext eH_ext fun a ha => ⟨rst_out ha, rfl⟩
theorem RS.inst {lo : Loc} (B : RS w X keys succ don out Rs) (ew : Ext w hp) : isInst ⟨lo, hp⟩ (.ref X) X := (B.all ew).inst
theorem RS.mem (B : RS w X keys succ don out Rs) {k : Int} : k ∈ Rs ↔ k ∈ keys ∧ don k = false ∧ out k = false ∧ ∀ v ∈ keys, k ∈ succ v → don v = true := (B.all (Ext.refl _)).mem
theorem RS.nodup (B : RS w X keys succ don out Rs) : Rs.Nodup := (B.all (Ext.refl _)).nodup
theorem RS.isOut (B : RS w X keys succ don out Rs) {k : Int} (h : out k = true) : k ∈ keys ∧ don k = false ∧ ∀ v ∈ keys, k ∈ succ v → don v = true := (B.all (Ext.refl _)).isOut h
theorem h_ready {Q : AV → AH → Prop} {E : Ex → AH → Prop} (B : RS w X keys succ don out Rs) (ew : Ext w hp)
    (k : ∀ hp' w' t, hp t = none → RS w' X keys succ don (fun k => out k || decide (k ∈ Rs)) [] → Ext w' hp' → Ext (rst hp w) hp' → hp' t = some (.tup (intsA Rs)) → (∀ a, w' a ≠ none → rst hp w a = none ∧ a ≠ t) → Q (.ref t) hp') : fp_get_ready [.ref X] Q E hp := by
  refine r_ready (B.all ew) fun hp' t zt B2 => ?_
  obtain ⟨w', R, e, dj⟩ := B2.cut
  have nt : rst hp w t = none := rst_ext.none zt
  refine k hp' w' t zt R e ((Ext.new _ nt).trans B2.s) (B2.s _ _ (upd_self ..)) fun a ha => ?_
  have h := (dj a ha).1
  have q : a ≠ t := fun q => by rw [q, upd_self] at h; cases h
  rw [upd_ne q] at h
  exact ⟨h, q⟩
noncomputable def Dj (h h' : AH) : Prop := ∀ a, h a ≠ none → h' a = none
theorem Dj.symm {h h' : AH} (d : Dj h h') : Dj h' h := fun a ha => by
  cases q : h a with
  | none => rfl
  | some o => exact absurd (d a (by rw [q]; nofun)) ha
structure Sep (hb : AH) (ws : List AH) (hp : AH) : Prop where
  s : Ext hb hp
  e : ∀ w ∈ ws, Ext w hp
  b : ∀ w ∈ ws, Dj w hb
  p : ws.Pairwise Dj
variable {hb' hp' w' : AH} {ws : List AH}
theorem Sep.gr (S : Sep hb ws hp) (g : Gr hb hp hb' hp') : Sep hb' ws hp' :=
  ⟨g.s, fun w hw => (S.e w hw).trans g.e, fun w hw a ha => g.n a (S.b w hw a ha) ((S.e w hw).some ha), S.p⟩
theorem Sep.ext (S : Sep hb ws hp) (e : Ext hp hp') : Sep hb ws hp' := ⟨S.s.trans e, fun w hw => (S.e w hw).trans e, S.b, S.p⟩
theorem Dj.rst (d : Dj w hb) (s : Ext hb hp) : Ext hb (Mine.rst hp w) := fun a o h => by
  have : w a = none := by
    cases q : w a with
    | none => rfl
    | some o' => rw [d a (by rw [q]; nofun)] at h; cases h
  rw [rst_in this]; exact s _ _ h
theorem Dj.of (d : Ext hb hb') (h : Dj w hb') : Dj w hb := fun a ha => d.none (h a ha)
theorem Sep.step (S : Sep hb (w :: ws) hp) (e1 : Ext (Mine.rst hp w) hp') (e2 : Ext w' hp') (h : ∀ a, w' a ≠ none → Mine.rst hp w a = none) : Sep hb (w' :: ws) hp' := by
  have hp0 := List.pairwise_cons.mp S.p
  have key : ∀ v ∈ ws, Ext v (Mine.rst hp w) := fun v hv => (hp0.1 v hv).rst (S.e v (List.mem_cons_of_mem _ hv))
  have kb := (S.b w (List.mem_cons_self ..)).rst S.s
  refine ⟨kb.trans e1, fun v hv => ?_, fun v hv => ?_, List.pairwise_cons.mpr ⟨fun v hv => Dj.of (key v hv) h, hp0.2⟩⟩
  · rcases List.mem_cons.mp hv with rfl | hv
    · exact e2
    · exact (key v hv).trans e1
  · rcases List.mem_cons.mp hv with rfl | hv
    · exact Dj.of kb h
    · exact S.b v (List.mem_cons_of_mem _ hv)
theorem Sep.stepT {t : Addr} {o : AObj} (S : Sep hb (w :: ws) hp) (e1 : Ext (Mine.rst hp w) hp') (e2 : Ext w' hp') (zt : hp t = none) (ht : hp' t = some o) (h : ∀ a, w' a ≠ none → Mine.rst hp w a = none ∧ a ≠ t) : Sep (upd hb t o) (w' :: ws) hp' := by
  have S2 := S.step e1 e2 fun a ha => (h a ha).1
  refine ⟨fun a o' q => ?_, S2.e, fun v hv a ha => ?_, S2.p⟩
  · by_cases r : a = t
    · rw [r, upd_self] at q; rw [r, ht]; exact q
    · rw [upd_ne r] at q; exact S2.s _ _ q
  · have r : a ≠ t := by
      rcases List.mem_cons.mp hv with rfl | hv
      · exact (h a ha).2
      · rintro rfl; exact ha ((S.e v (List.mem_cons_of_mem _ hv)).none zt)
    rw [upd_ne r]; exact S2.b v hv a ha
end
end
section
section
variable {hb hp hb' hp' w : AH} {ws : List AH} {a : Addr} {o : AObj}
theorem Sep.set (S : Sep hb (w :: ws) hp) (ha : w a ≠ none) : Sep hb (upd w a o :: ws) (upd hp a o) := by
  refine S.step (fun c o' h => ?_) (fun c o' h => ?_) fun c hc => rst_out ?_
  · have q : c ≠ a := fun q => by rw [q, rst_out ha] at h; cases h
    rw [upd_ne q]; exact rst_ext _ _ h
  · by_cases q : c = a
    · rw [q, upd_self] at h ⊢; exact h
    · rw [upd_ne q] at h ⊢; exact S.e w (List.mem_cons_self ..) _ _ h
  · by_cases q : c = a
    · rw [q]; exact ha
    · rw [upd_ne q] at hc; exact hc
theorem Sep.push (S : Sep hb ws hp) (e : Ext hp hp') (ew : Ext w hp') (h : ∀ a, w a ≠ none → hp a = none) : Sep hb (w :: ws) hp' := by
  refine ⟨S.s.trans e, fun v hv => ?_, fun v hv a ha => ?_, List.pairwise_cons.mpr ⟨fun v hv a ha => (S.e v hv).none (h a ha), S.p⟩⟩
  · rcases List.mem_cons.mp hv with rfl | hv
    · exact ew
    · exact (S.e v hv).trans e
  · rcases List.mem_cons.mp hv with rfl | hv
    · exact S.s.none (h a ha)
    · exact S.b v hv a ha
theorem Sep.drop (S : Sep hb (w :: ws) hp) : Sep hb ws hp := ⟨S.s, fun v hv => S.e v (List.mem_cons_of_mem _ hv), fun v hv => S.b v (List.mem_cons_of_mem _ hv), (List.pairwise_cons.mp S.p).2⟩
theorem Sep.head (S : Sep hb (w :: ws) hp) : Ext w hp := S.e w (List.mem_cons_self ..)
theorem Sep.fix (S : Sep hb (w :: ws) hp) : Sep (uni hb w) ws hp ∧ Ext hb (uni hb w) ∧ Ext w (uni hb w) := by
  refine ⟨⟨uni_s S.s S.head, fun v hv => S.e v (List.mem_cons_of_mem _ hv), fun v hv a ha => ?_, (List.pairwise_cons.mp S.p).2⟩, uni_l, uni_r S.s S.head⟩
  unfold uni
  rw [S.b v (List.mem_cons_of_mem _ hv) a ha]
  exact (List.pairwise_cons.mp S.p).1 v hv |>.symm a ha
noncomputable def kn (hb : AH) : List AH → AH
  | [] => hb
  | w :: ws => uni (kn hb ws) w
theorem Sep.kn (S : Sep hb ws hp) : Ext (kn hb ws) hp ∧ Ext hb (kn hb ws) ∧ ∀ w ∈ ws, Ext w (kn hb ws) := by
  induction ws with
  | nil => exact ⟨S.s, Ext.refl _, nofun⟩
  | cons w ws ih =>
    obtain ⟨h1, h2, h3⟩ := ih S.drop
    refine ⟨uni_s h1 S.head, h2.trans uni_l, fun v hv => ?_⟩
    rcases List.mem_cons.mp hv with rfl | hv
    · exact uni_r h1 S.head
    · exact (h3 v hv).trans uni_l
noncomputable def LHv (l : Addr) (vs : List AV) : AH := upd eH l (.list vs)
noncomputable abbrev LH (l : Addr) (ns : List Int) : AH := LHv l (intsA ns)
theorem lh_self {l : Addr} {vs : List AV} : LHv l vs l = some (.list vs) := upd_self ..
theorem lh_ne {l : Addr} {vs : List AV} : LHv l vs l ≠ none := by rw [lh_self]; nofun
theorem lh_only {l a : Addr} {vs : List AV} (h : LHv l vs a ≠ none) : a = l := by
  by_cases q : a = l
  · exact q
  · unfold LHv at h; rw [upd_ne q] at h; exact absurd rfl h
theorem lh_set {l : Addr} {vs us : List AV} : upd (LHv l vs) l (.list us) = LHv l us := by
  funext a
  unfold LHv
  by_cases q : a = l
  · rw [q, upd_self, upd_self]
  · rw [upd_ne q, upd_ne q, upd_ne q]
theorem Sep.setL {l : Addr} {vs us : List AV} (S : Sep hb (LHv l vs :: ws) hp) : Sep hb (LHv l us :: ws) (upd hp l (.list us)) := by
  have h := S.set (a := l) (o := .list us) lh_ne
  rwa [lh_set] at h
theorem Sep.atL {l : Addr} {vs : List AV} (S : Sep hb (LHv l vs :: ws) hp) : hp l = some (.list vs) := S.head _ _ lh_self
theorem lh_ext {l : Addr} {vs : List AV} (h : hp l = some (.list vs)) : Ext (LHv l vs) hp := fun a o e => by
  have := lh_only (l := l) (vs := vs) (a := a) (by rw [e]; nofun)
  rw [this, lh_self] at e; rw [this, h]; exact e
theorem Sep.newL {l : Addr} {vs : List AV} (S : Sep hb ws hp) (h : hp l = none) : Sep hb (LHv l vs :: ws) (upd hp l (.list vs)) :=
  S.push (Ext.new _ h) (lh_ext (upd_self ..)) fun a ha => by rw [lh_only ha]; exact h
noncomputable def VF {α : Type} (h0 : AH) (R : VR α) : VR (List α) := ⟨fun l v hp => ∃ a vs, v = .ref a ∧ h0 a = none ∧ hp a = some (.list vs) ∧ All2 R l vs hp, fun e ⟨a, vs, h1, h0, h2, h3⟩ => ⟨a, vs, h1, h0, e _ _ h2, h3.ext e⟩⟩
theorem VF.l {α : Type} {h0 : AH} {R : VR α} {l : List α} {v : AV} (h : (VF h0 R).r l v hp) : (VL R).r l v hp := by
  obtain ⟨a, vs, h1, _, h2, h3⟩ := h
  exact ⟨a, vs, h1, h2, h3⟩
theorem vf_ints {h0 : AH} {l : List Int} {v : AV} : (VF h0 VI).r l v hp ↔ ∃ a, v = .ref a ∧ h0 a = none ∧ hp a = some (.list (intsA l)) := by
  constructor
  · rintro ⟨a, vs, h1, h0, h2, h3⟩; exact ⟨a, h1, h0, by rw [← All2.ints.mp h3]; exact h2⟩
  · rintro ⟨a, h1, h0, h2⟩; exact ⟨a, _, h1, h0, h2, All2.ints.mpr rfl⟩
theorem Sep.own {v : AV} {l : List Int} {hb2 : AH} (S : Sep hb ws hp) (g : Gr (Mine.kn hb ws) hp hb2 hp') (h : (VF hp VI).r l v hb2) : ∃ a, v = .ref a ∧ Sep hb (LH a l :: ws) hp' := by
  obtain ⟨a, rfl, h0, h1⟩ := vf_ints.mp h
  exact ⟨a, rfl, S.push g.e (lh_ext (g.s _ _ h1)) fun c hc => by rw [lh_only hc]; exact h0⟩
end
section
variable {α β : Type} {p q r : EP} {R : VR α} {S : VR β} {lo : Loc} {hb hp : AH} {i j n : Nat} {y : Int}
noncomputable def ZF (p : EP) (R : VR α) (x : List α) (lo : Loc) (hb : AH) : Prop := ∀ hp, Ext hb hp → ∀ (Q : AV → St → Prop) (E : Ex → St → Prop), (∀ hb' hp' v, Gr hb hp hb' hp' → (VF hp R).r x v hb' → Q v ⟨lo, hp'⟩) → p Q E ⟨lo, hp⟩
theorem ZF.z {x : List α} (h : ZF p R x lo hb) : Z p (VL R) x lo hb := fun hp s Q E k => h hp s Q E fun hb' hp' v g hv => k _ _ v g (VF.l (R := R) (h0 := hp) hv)
theorem zf_cast {x y : List α} (h : ZF p R x lo hb) (e : x = y) : ZF p R y lo hb := e ▸ h
theorem zf_list {q : LP} {xs : List α} (h : ZI q R xs lo hb) (hz : xs.length ≤ 1000000) : ZF (pList q) R xs lo hb := fun hp s Q E k =>
  h hp s _ _ fun hb2 hp2 vs g hvs => ⟨by rw [hvs.len]; exact hz, fun a za => by
    have g2 := Gr.new g.s (.list vs) za
    exact k _ _ _ (g.trans g2) ⟨a, vs, rfl, g.e.none za, upd_self .., hvs.ext g2.b⟩⟩
theorem All2.take {xs : List α} {vs : List AV} (h : All2 R xs vs hp) (k : Nat) : All2 R (xs.take k) (vs.take k) hp := by
  induction xs generalizing vs k with
  | nil => cases h.nil_inv; cases k <;> trivial
  | cons x l ih =>
    obtain ⟨v, vs, rfl, h1, h2⟩ := h.cons_inv
    cases k with
    | zero => trivial
    | succ k => exact ⟨h1, ih h2 k⟩
theorem All2.drop {xs : List α} {vs : List AV} (h : All2 R xs vs hp) (k : Nat) : All2 R (xs.drop k) (vs.drop k) hp := by
  induction xs generalizing vs k with
  | nil => cases h.nil_inv; cases k <;> trivial
  | cons x l ih =>
    obtain ⟨v, vs, rfl, h1, h2⟩ := h.cons_inv
    cases k with
    | zero => exact ⟨h1, h2⟩
    | succ k => exact ih h2 k
noncomputable def pickL (xs : List α) (lo hi : Option Int) : List α := (xs.drop (clipN lo 0 xs.length)).take (clipN hi xs.length xs.length - clipN lo 0 xs.length)
theorem All2.pick {xs : List α} {vs : List AV} (h : All2 R xs vs hp) (lo hi : Option Int) : All2 R (pickL xs lo hi) (pickA vs lo hi) hp := by
  unfold pickL pickA
  rw [h.len]
  exact (h.drop _).take _
noncomputable def VO : VR (Option Int) := ⟨fun n v _ => partOf v = some n, fun _ h => h⟩
theorem z_noB : Z pNone VO none lo hb := fun hp s Q E k => k _ _ _ (.refl s) rfl
theorem z_bound {x : Int} (h : Z p VI x lo hb) : Z p VO (some x) lo hb := fun hp s Q E k => h hp s Q E fun hb' hp' v g hv => k _ _ v g (by cases hv; rfl)
theorem zf_slice {xs : List α} {l u : Option Int} (h : Z p (VL R) xs lo hb) (hl : Z q VO l lo hb) (hu : Z r VO u lo hb) : ZF (pSlice p q r) R (pickL xs l u) lo hb := fun hp s Q E k =>
  h hp s _ _ fun hb2 hp2 v g hv => (hl.ext g.b) hp2 g.s _ _ fun hb3 hp3 lv g3 hlv => (hu.ext (g.b.trans g3.b)) hp3 g3.s _ _ fun hb4 hp4 uv g4 huv => by
    obtain ⟨a, vs, rfl, ha, hx⟩ := hv
    refine ⟨a, _, _, vs, rfl, hlv, huv, lst_of ((g3.e.trans g4.e) _ _ (g.s _ _ ha)), fun b zb => ?_⟩
    have g5 := Gr.new g4.s (.list (pickA vs l u)) zb
    exact k _ _ _ (g.trans (g3.trans (g4.trans g5))) ⟨b, _, rfl, (g.e.trans (g3.e.trans g4.e)).none zb, upd_self .., (hx.ext (g3.b.trans (g4.b.trans g5.b))).pick l u⟩
theorem zf_sliceF {a : Addr} {ns : List Int} {l u : Option Int} (h : lo i = some (.ref a)) (ha : hb a = some (.flist (intsA ns))) (hl : Z q VO l lo hb) (hu : Z r VO u lo hb) : ZF (pSlice (pName i) q r) VI (pickL ns l u) lo hb := fun hp s Q E k =>
  ⟨_, h, hl hp s _ _ fun hb3 hp3 lv g3 hlv => (hu.ext g3.b) hp3 g3.s _ _ fun hb4 hp4 uv g4 huv => by
    refine ⟨a, _, _, _, rfl, hlv, huv, lst_flist ((g3.e.trans g4.e) _ _ (s _ _ ha)), fun b zb => ?_⟩
    have g5 := Gr.new g4.s (.list (pickA (intsA ns) l u)) zb
    exact k _ _ _ (g3.trans (g4.trans g5)) ⟨b, _, rfl, (g3.e.trans g4.e).none zb, upd_self .., (All2.ints.mpr rfl : All2 VI ns (intsA ns) _).pick l u⟩⟩
theorem zf_cat {xs ys : List α} (h1 : Z p (VL R) xs lo hb) (h2 : Z q (VL R) ys lo hb) (hz : xs.length + ys.length ≤ 1000000) : ZF (pBin opAdd p q) R (xs ++ ys) lo hb := fun hp s Q E k =>
  h1 hp s _ _ fun hb2 hp2 v g hv => (h2.ext g.b) hp2 g.s _ _ fun hb3 hp3 u g3 hu => by
    obtain ⟨a, vs, rfl, ha, h3⟩ := hv
    obtain ⟨b, ws, rfl, hb', h4⟩ := hu
    refine ⟨_, _, lst_of (g3.e _ _ (g.s _ _ ha)), lst_of (g3.s _ _ hb'), by rw [h3.len, h4.len]; exact hz, fun c zc => ?_⟩
    have g4 := Gr.new g3.s (.list (vs ++ ws)) zc
    exact k _ _ _ (g.trans (g3.trans g4)) ⟨c, _, rfl, (g.e.trans g3.e).none zc, upd_self .., (h4.ext g4.b).append (h3.ext (g3.b.trans g4.b))⟩
theorem All2.rep {x : List α} {vs : List AV} (h : All2 R x vs hp) : ∀ n : Nat, All2 R (List.replicate n x).flatten (List.replicate n vs).flatten hp
  | 0 => trivial
  | n + 1 => by
    rw [List.replicate_succ, List.replicate_succ, List.flatten_cons, List.flatten_cons]
    exact (All2.rep h n).append h
theorem zf_mul {xs : List α} (h1 : Z p (VL R) xs lo hb) (h2 : Z q VI y lo hb) (hz : xs.length * y.toNat ≤ 1000000) (h0 : -1000000 ≤ y) (h0' : y ≤ 1000000) : ZF (pBin opMul p q) R (List.replicate y.toNat xs).flatten lo hb := fun hp s Q E k =>
  h1 hp s _ _ fun hb2 hp2 v g hv => (h2.ext g.b) hp2 g.s _ _ fun hb3 hp3 u g3 hu => by
    cases hu
    obtain ⟨a, vs, rfl, ha, h3⟩ := hv
    refine ⟨_, g3.e _ _ (g.s _ _ ha), by rw [h3.len]; exact hz, h0, h0', fun c zc => ?_⟩
    have g4 := Gr.new g3.s (.list (List.replicate y.toNat vs).flatten) zc
    exact k _ _ _ (g.trans (g3.trans g4)) ⟨c, _, rfl, (g.e.trans g3.e).none zc, upd_self .., (h3.ext (g3.b.trans g4.b)).rep _⟩
variable {src : IP} {mm : List (Option Nat)} {C : CP} {tgt : AV → SP}
theorem zf_comp {xs : List α} {f : α → List β} (Z : ZS src R xs lo hb) (L : Loc → Prop) (hL : L (capLoc mm lo)) (hz : (xs.flatMap f).length < 1000000) (hs : ∀ x ∈ xs, ∀ v hb1 lo', L lo' → Ext hb hb1 → R.r x v hb1 → ZK tgt C S (f x) L v lo' hb1) : ZF (pComp mm src tgt C) S (xs.flatMap f) lo hb := fun hp s Q E k =>
  Z hp s _ _ fun hb2 hp2 vs guard g hx hg => zc_loop hx hg hL (fun x h v hb3 lo' hl e3 hr => hs x h v hb3 lo' hl (g.b.trans e3) hr) hp2 g.s [] _ (by rw [List.length_nil, Nat.zero_add]; exact hz) fun lo2 hb3 hp3 ws h1 g3 h2 a za => by
    have g4 := Gr.new g3.s (.list ([] ++ ws)) za
    exact k _ _ _ (g.trans (g3.trans g4)) ⟨a, _, rfl, (g.e.trans g3.e).none za, upd_self .., h2.ext g4.b⟩
theorem zf_compN {xs : List α} {f : α → β} (Z : ZS src R xs lo hb) (hz : xs.length < 1000000) (h : ∀ x ∈ xs, ∀ v hb1, Ext hb hb1 → R.r x v hb1 → Mine.Z p S (f x) (setv (capLoc mm lo) 0 v) hb1) : ZF (pComp mm src (aName 0) (cTest none (cEmit p))) S (xs.map f) lo hb := by
  rw [← flat_one]
  refine zf_comp Z (fun lo' => ∀ v, setv lo' 0 v = setv (capLoc mm lo) 0 v) (fun _ => rfl) (by rw [flat_one, List.length_map]; exact hz) fun x hx v hb1 lo' hl e hr => zk_name ?_
  rw [hl]
  exact zc_emit (h x hx v hb1 e hr) fun w => setv_twice ..
theorem zf_compF {t : TP} {xs : List α} {f : α → β} {b : α → Bool} (Z : ZS src R xs lo hb) (hz : xs.length < 1000000) (ht : ∀ x ∈ xs, ∀ v hb1, Ext hb hb1 → R.r x v hb1 → ZT t (b x) (setv (capLoc mm lo) 0 v) hb1)
    (h : ∀ x ∈ xs, b x = true → ∀ v hb1, Ext hb hb1 → R.r x v hb1 → Mine.Z p S (f x) (setv (capLoc mm lo) 0 v) hb1) : ZF (pComp mm src (aName 0) (cTest (some t) (cEmit p))) S ((xs.filter b).map f) lo hb := by
  rw [← flat_if]
  refine zf_comp Z (fun lo' => ∀ v, setv lo' 0 v = setv (capLoc mm lo) 0 v) (fun _ => rfl) (by rw [flat_if, List.length_map]; exact Nat.lt_of_le_of_lt (List.length_filter_le ..) hz) fun x hx v hb1 lo' hl e hr => zk_name ?_
  rw [hl]
  exact zc_test (ht x hx v hb1 e hr) (fun hbx => zc_emit (h x hx hbx v hb1 e hr) fun w => setv_twice ..) fun w => setv_twice ..
theorem zf_filt {t : TP} {l : List Int} {b : Int → Bool} (Z : ZS src VI l lo hb) (hz : l.length < 1000000) (ht : ∀ x ∈ l, ∀ hb1, Ext hb hb1 → ZT t (b x) (setv (capLoc mm lo) 0 (.int x)) hb1) : ZF (pComp mm src (aName 0) (cTest (some t) (cEmit (pName 0)))) VI (l.filter b) lo hb := by
  have h := zf_compF (p := pName 0) (mm := mm) (f := fun x => x) (S := VI) (R := VI) Z hz (fun x hx v hb1 e hr => by cases hr; exact ht x hx hb1 e) fun x hx _ v hb1 e hr => by cases hr; exact z_nameI rfl
  rwa [List.map_id'] at h
end
end
section
noncomputable def ffB : Int → Bool := fun _ => false
noncomputable def BH (w : AH) (x : Addr) (keys : List Int) (st : List (Int × Int)) : Prop := ∃ own d n2i rec suc, Srt w own x d n2i rec suc keys (cntS st) (succS st) .none 0 0 ∧ ¬ own x
section
variable {h0 hb hp w : AH} {X : Addr} {keys : List Int} {st : List (Int × Int)} {lo : Loc}
theorem Bld.cut (B : Bld h0 hb hp X keys (cntS st) (succS st)) : ∃ w, BH w X keys st ∧ Ext w hp ∧ ∀ a, w a ≠ none → hb a = none ∧ h0 a = none := by
  obtain ⟨own, d, n2i, rec, suc, S, b⟩ := B
  refine ⟨cutH hp own X, ⟨own, d, n2i, rec, suc, S.frame cut_frm (fun a ha q => q (.inl ha)) fun q => q (.inr rfl), b.xo⟩, cut_ext, fun a ha => ?_⟩
  rcases cut_own ha with h | rfl
  · exact ⟨b.ob a h, b.o0 a h⟩
  · exact ⟨b.xb, b.x0⟩
theorem BH.all (B : BH w X keys st) (ew : Ext w hp) : Bld eH (rst hp w) hp X keys (cntS st) (succS st) := by
  obtain ⟨own, d, n2i, rec, suc, S, xo⟩ := B
  have dj : ∀ a, w a ≠ none → rst hp w a = none := fun a ha => rst_out ha
  exact ⟨own, d, n2i, rec, suc, S.ext ew, eH_ext, rst_ext, fun a ha => rfl, fun a ha => dj a (S.al a ha), rfl, dj X (by rw [S.hx]; nofun), xo⟩
theorem BH.inst (B : BH w X keys st) (ew : Ext w hp) : isInst ⟨lo, hp⟩ (.ref X) X := (B.all ew).inst
theorem BH.nodup (B : BH w X keys st) : keys.Nodup := by obtain ⟨own, d, n2i, rec, suc, S, xo⟩ := B; exact S.nd
theorem h_new {Q : AV → St → Prop} {E : Ex → St → Prop} (k : ∀ hp' w x, BH w x [] [] → Ext hp hp' → Ext w hp' → (∀ a, w a ≠ none → hp a = none) → Q (.ref x) ⟨lo, hp'⟩) : (pNewS fp_sorter lNil) Q E ⟨lo, hp⟩ := by
  refine b_new (Ext.refl hp) (Ext.refl hp) fun hp' x B e => ?_
  obtain ⟨w, W, ew, dj⟩ := Bld.cut (st := []) B
  exact k hp' w x W e ew fun a ha => (dj a ha).2
theorem cntS_many {k : Int} : ∀ (ps : List Int) (st : List (Int × Int)), cntS (st ++ ps.map fun p => (p, k)) = setI (cntS st) k (cntS st k + ps.length)
  | [], st => by
    funext j
    rw [List.map_nil, List.append_nil]
    unfold setI
    by_cases q : j = k
    · rw [if_pos q, q, List.length_nil]; exact (Int.add_zero _).symm
    · rw [if_neg q]
  | p :: ps, st => by
    have h := cntS_many (k := k) ps (st ++ [(p, k)])
    rw [List.append_assoc] at h
    refine Eq.trans h ?_
    rw [cntS_snoc]
    funext j
    unfold setI
    dsimp only
    by_cases q : j = k
    · rw [if_pos q, if_pos q, if_pos rfl, List.length_cons]; (first | lia | omega)
    · rw [if_neg q, if_neg q, if_neg q]
theorem succS_many {k : Int} (ps : List Int) (st : List (Int × Int)) : succS (st ++ ps.map fun p => (p, k)) = addSucc (succS st) ps k := by
  funext j
  unfold succS addSucc
  rw [List.filter_append, List.map_append]
  congr 1
  induction ps with
  | nil => rfl
  | cons p ps ih =>
    rw [List.map_cons, List.filter_cons, List.count_cons]
    by_cases q : p = j
    · rw [if_pos (by simpa using q), if_pos (by simpa using q), List.map_cons, ih, List.replicate_succ]
    · rw [if_neg (by simpa using q), if_neg (by simpa using q), ih]; rfl
theorem h_add {Q : AV → AH → Prop} {E : Ex → AH → Prop} {k : Int} {ps : List Int} (B : BH w X keys st) (ew : Ext w hp) (hz : keys.length + ps.length < 999990) (hz2 : st.length + ps.length < 1000000)
    (h : ∀ hp' w', BH w' X (addKeys (insK keys k) ps) (st ++ ps.map fun p => (p, k)) → Ext w' hp' → Ext (rst hp w) hp' → (∀ a, w' a ≠ none → rst hp w a = none) → Q .none hp') : fp_add (.ref X :: .int k :: intsA ps) Q E hp := by
  refine b_add (B.all ew) hz (fun p => by have := len_succS st p; (first | lia | omega)) fun hp' B2 => ?_
  rw [← cntS_many, ← succS_many] at B2
  obtain ⟨w', W, e, dj⟩ := B2.cut
  exact h hp' w' W e B2.s fun a ha => (dj a ha).1
theorem h_prep {Q : AV → AH → Prop} {E : Ex → AH → Prop} (B : BH w X keys st) (ew : Ext w hp) (hk : ∀ p ∈ st, p.1 ∈ keys ∧ p.2 ∈ keys) (hz : keys.length < 1000)
    (k0 : ∀ hp' w' Rs, RS w' X keys (succS st) ffB ffB Rs → Ext w' hp' → Ext (rst hp w) hp' → (∀ a, w' a ≠ none → rst hp w a = none) → (∃ r : Int → Nat, ∀ p ∈ st, r p.2 < r p.1) → Q .none hp')
    (k1 : ∀ hp' w' Rs, RS w' X keys (succS st) ffB ffB Rs → Ext w' hp' → Ext (rst hp w) hp' → (∀ a, w' a ≠ none → rst hp w a = none) → (∃ k ∈ keys, TC (succS st) k k) → E .cycle hp') : fp_prepare [.ref X] Q E hp := by
  refine b_prep (B.all ew) (fun k _ => cntS_ind B.nodup (fun p hp => (hk p hp).1) k) (fun v _ x hx => (hk _ (mem_succS.mp hx)).2) hz (fun hp' Rs B2 hr => ?_) fun hp' Rs B2 hr => ?_
  · obtain ⟨w', R, e, dj⟩ := B2.cut
    obtain ⟨r, hr⟩ := hr
    exact k0 hp' w' Rs R e B2.s (fun a ha => (dj a ha).1) ⟨r, fun p hp => hr p.1 (hk p hp).1 p.2 (mem_succS.mpr hp)⟩
  · obtain ⟨w', R, e, dj⟩ := B2.cut
    exact k1 hp' w' Rs R e B2.s (fun a ha => (dj a ha).1) hr
theorem no_tc {r : Int → Nat} (h : ∀ p ∈ st, r p.2 < r p.1) {a b : Int} (t : TC (succS st) a b) : r b < r a := by
  induction t with
  | one e => exact h _ (mem_succS.mp e)
  | more _ e ih => exact Nat.lt_trans (h _ (mem_succS.mp e)) ih
end
end
section
section
variable {α β : Type} {p q r : EP} {t : TP} {R : VR α} {c : Bool} {lo : Loc} {hb hp w : AH} {ws : List AH} {i j n : Nat} {l : Addr} {vs : List AV} {ns ms : List Int} {x y : Int} {Q : Fl → St → Prop} {E : Ex → St → Prop} {rest A B : SP}
-- statements beside parts of the heap
theorem S_nil (S : Sep hb ws hp) (k : ∀ hp' a, Sep hb (LH a [] :: ws) hp' → rest Q E ⟨setv lo i (.ref a), hp'⟩) : (sSeq (sAssign (pList lNil) (aName i)) rest) Q E ⟨lo, hp⟩ :=
  ⟨by decide, fun a za => k _ a (S.newL (vs := []) za)⟩
theorem S_own (S : Sep hb ws hp) (h : ZF p VI ns lo (kn hb ws)) (k : ∀ hp' a, Sep hb (LH a ns :: ws) hp' → rest Q E ⟨setv lo i (.ref a), hp'⟩) : (sSeq (sAssign p (aName i)) rest) Q E ⟨lo, hp⟩ :=
  h hp S.kn.1 _ _ fun hb' hp' v g hv => by
    obtain ⟨a, rfl, S'⟩ := S.own g hv
    exact k hp' a S'
theorem S_own1 (S : Sep hb ws hp) (h : ZF p VI ns lo (kn hb ws)) (k : ∀ hp' a, Sep hb (LH a ns :: ws) hp' → Q .next ⟨setv lo i (.ref a), hp'⟩) : (sAssign p (aName i)) Q E ⟨lo, hp⟩ :=
  h hp S.kn.1 _ _ fun hb' hp' v g hv => by
    obtain ⟨a, rfl, S'⟩ := S.own g hv
    exact k hp' a S'
theorem S_int (S : Sep hb ws hp) (h : Z p VI x lo (kn hb ws)) (k : ∀ hp', Sep hb ws hp' → rest Q E ⟨setv lo i (.int x), hp'⟩) : (sSeq (sAssign p (aName i)) rest) Q E ⟨lo, hp⟩ :=
  h hp S.kn.1 _ _ fun hb' hp' v g hv => by cases hv; exact k hp' (S.ext g.e)
theorem S_set {x : α} (S : Sep hb ws hp) (h : Z p R x lo hb) (k : ∀ hb' hp' v, Ext hb hb' → Sep hb' ws hp' → R.r x v hb' → rest Q E ⟨setv lo i v, hp'⟩) : (sSeq (sAssign p (aName i)) rest) Q E ⟨lo, hp⟩ :=
  h hp S.s _ _ fun hb' hp' v g hv => k hb' hp' v g.b (S.gr g) hv
theorem S_if (S : Sep hb ws hp) (h : ZT t c lo (kn hb ws)) (h1 : c = true → ∀ hp', Sep hb ws hp' → A Q E ⟨lo, hp'⟩) (h2 : c = false → ∀ hp', Sep hb ws hp' → B Q E ⟨lo, hp'⟩) : (sIf t A B) Q E ⟨lo, hp⟩ :=
  s_if h S.kn.1 (fun hc _ hp' g => h1 hc hp' (S.ext g.e)) fun hc _ hp' g => h2 hc hp' (S.ext g.e)
theorem S_append (S : Sep hb (LH l ns :: ws) hp) (hi : lo i = some (.ref l)) (hz : ns.length < 1000000) (h : Z p VI x lo (kn hb (LH l ns :: ws))) (k : ∀ hp', Sep hb (LH l (ns ++ [x]) :: ws) hp' → Q .next ⟨lo, hp'⟩) : (sExpr (pBm "list" opAppend (pName i) (lCons p lNil))) Q E ⟨lo, hp⟩ :=
  s_append hi S.atL (by rw [List.length_map]; exact hz) h S.kn.1 fun hb' hp' v g hv => by
    cases hv
    have h1 := (S.ext g.e).setL (us := intsA (ns ++ [x]))
    have e : intsA ns ++ [AV.int x] = intsA (ns ++ [x]) := (List.map_append (l₁ := ns) (l₂ := [x])).symm
    rw [e]
    exact k _ h1
theorem nameK (S : Sep hb (LH l ns :: ws) hp) (hi : lo i = some (.ref l)) : Z (pName i) (VL VI) ns lo (kn hb (LH l ns :: ws)) := z_nameL hi (S.kn.2.2 _ (List.mem_cons_self ..) _ _ lh_self)
theorem nameK' (S : Sep hb ws hp) (hm : LH l ns ∈ ws) (hi : lo i = some (.ref l)) : Z (pName i) (VL VI) ns lo (kn hb ws) := z_nameL hi (S.kn.2.2 _ hm _ _ lh_self)
structure LK (J : Loc → AH → AH → Prop) (hb : AH) (Q P : Fl → St → Prop) : Prop where
  n : ∀ {lo hb' hp}, Ext hb hb' → J lo hb' hp → P .next ⟨lo, hp⟩
  c : ∀ {lo hb' hp}, Ext hb hb' → J lo hb' hp → P .cont ⟨lo, hp⟩
  b : ∀ {σ}, Q .next σ → P .brk σ
  r : ∀ {v σ}, Q (.ret v) σ → P (.ret v) σ
theorem S_for {src : IP} {tgt : AV → SP} {xs : List α} {body : SP} (S : Sep hb ws hp) (Z : ZS src R xs lo hb) (J : Nat → Loc → AH → AH → Prop) (h0 : ∀ hb' hp', Ext hb hb' → Sep hb' ws hp' → J 0 lo hb' hp') (hJ : ∀ i lo2 hb2 hp2, J i lo2 hb2 hp2 → Ext hb2 hp2)
    (hs : ∀ i x v lo2 hb2 hp2 P, xs[i]? = some x → Ext hb hb2 → R.r x v hb2 → J i lo2 hb2 hp2 → LK (J (i + 1)) hb2 Q P → tgt v (fun _ σ₂ => body P E σ₂) E ⟨lo2, hp2⟩) (hq : ∀ lo2 hb2 hp2, Ext hb hb2 → J xs.length lo2 hb2 hp2 → Q .next ⟨lo2, hp2⟩) : (sFor src tgt body) Q E ⟨lo, hp⟩ := by
  refine s_for Z S.s fun hb' hp' g => ⟨fun i lo2 hp2 => ∃ hb2, Ext hb' hb2 ∧ J i lo2 hb2 hp2, ⟨hb', Ext.refl _, h0 hb' hp' g.b (S.gr g)⟩, fun i lo2 hp2 ⟨hb2, e, h⟩ => e.trans (hJ _ _ _ _ h), ?_, fun lo2 hp2 ⟨hb2, e, h⟩ => hq lo2 hb2 hp2 (g.b.trans e) h⟩
  rintro i x v lo2 hp2 hi hv ⟨hb2, e, h⟩
  exact hs i x v lo2 hb2 hp2 _ hi (g.b.trans e) (R.m e hv) h ⟨fun e2 h2 => ⟨_, e.trans e2, h2⟩, fun e2 h2 => ⟨_, e.trans e2, h2⟩, fun h => h, fun h => h⟩
end
end
section
section
variable {q : EP} {lo : Loc} {hb hp w : AH} {ws : List AH} {i j : Nat} {l X : Addr} {ns ms keys Rs : List Int} {succ : Int → List Int} {don out : Int → Bool} {Q : Fl → St → Prop} {E : Ex → St → Prop} {rest : SP}
end
end
section
section
variable {α β : Type}
noncomputable def FN (R : VR α) : Prop := ∀ hp x y u, R.r x u hp → R.r y u hp → x = y
noncomputable def EQ [DecidableEq α] (R : VR α) (n : Nat) : Prop := ∀ hp x y u v, R.r x u hp → R.r y v hp → EqD hp n u v (decide (x = y))
noncomputable def ByR (R : VR α) : Prop := ∀ x v hp, R.r x v hp → ∃ a, v = .ref a
variable {p q : EP} {lo : Loc} {hb hp : AH}
noncomputable def ddec (p : Prop) : Bool := @decide p (Classical.propDecidable p)
end
end
section
open Classical in
noncomputable def MHv (as : List Addr) (M : Nat → List AV) : AH := fun c => if c ∈ as then some (.list (M (as.idxOf c))) else none
section
variable {hb hp : AH} {ws : List AH} {as : List Addr} {M : Nat → List AV} {i : Nat} {a la : Addr} {row : List AV}
theorem idx_at (hn : as.Nodup) (h : as[i]? = some a) : as.idxOf a = i := by
  obtain ⟨hi, e⟩ := List.getElem?_eq_some_iff.mp h
  rw [← e]
  exact hn.idxOf_getElem i hi
theorem mh_at (hn : as.Nodup) (h : as[i]? = some a) : MHv as M a = some (.list (M i)) := by
  unfold MHv
  rw [if_pos (List.mem_of_getElem? h), idx_at hn h]
theorem mh_nil : Ext (MHv [] M) hp := fun c o e => by unfold MHv at e; rw [if_neg (by simp)] at e; cases e
theorem mh_only {c : Addr} (h : MHv as M c ≠ none) : c ∈ as := by
  unfold MHv at h
  split at h
  · assumption
  · exact absurd rfl h
noncomputable def setR (M : Nat → List AV) (i : Nat) (row : List AV) : Nat → List AV := fun k => if k = i then row else M k
theorem mh_upd (hn : as.Nodup) (h : as[i]? = some a) : upd (MHv as M) a (.list row) = MHv as (setR M i row) := by
  funext c
  by_cases q : c = a
  · subst q
    rw [upd_self, mh_at hn h]
    unfold setR
    rw [if_pos rfl]
  · rw [upd_ne q]
    unfold MHv
    split
    · rename_i hc
      have : as.idxOf c ≠ i := fun e => q (by
        have hlt : as.idxOf c < as.length := List.idxOf_lt_length_iff.mpr hc
        have h2 := List.getElem_idxOf hlt
        have h3 := List.getElem?_eq_getElem hlt
        rw [h2, e, h] at h3
        exact (Option.some.inj h3).symm)
      unfold setR
      rw [if_neg this]
    · rfl
theorem Sep.setM (S : Sep hb (MHv as M :: ws) hp) (hn : as.Nodup) (h : as[i]? = some a) : Sep hb (MHv as (setR M i row) :: ws) (upd hp a (.list row)) := by
  have := S.set (a := a) (o := .list row) (by rw [mh_at hn h]; nofun)
  rwa [mh_upd hn h] at this
noncomputable def VA : VR Addr := ⟨fun a v _ => v = .ref a, fun _ h => h⟩
variable {α β : Type} {p q r : EP} {R : VR α} {lo : Loc} {j : Nat} {x y z : Int} {Q : Fl → St → Prop} {E : Ex → St → Prop} {vs : List AV}
theorem z_rowA (hi : lo j = some (.ref la)) (hla : hb la = some (.list (as.map .ref))) (h : Z p VI y lo hb) (h0 : 0 ≤ y) (ha : as[y.toNat]? = some a) : Z (pBin opItem (pName j) p) VA a lo hb := fun hp s Q E k =>
  ⟨_, hi, h hp s _ _ fun hb2 hp2 v g hv => by cases hv; exact ⟨.ref a, item_list (g.s _ _ (g.b _ _ hla)) h0 (by rw [List.getElem?_map, ha]; rfl), k _ _ _ g rfl⟩⟩
theorem z_listA (h : Z p VA a lo hb) (ha : hb a = some (.list vs)) {xs : List α} (hx : All2 R xs vs hb) : Z p (VL R) xs lo hb := fun hp s Q E k =>
  h hp s _ _ fun hb2 hp2 u g hu => by cases hu; exact k _ _ _ g ⟨a, vs, rfl, g.b _ _ ha, hx.ext g.b⟩
noncomputable def MX (c : α → AV) (n : Nat) (as : List Addr) (F : Int → Int → α) : AH := MHv as fun i => (keysN n).map fun b => c (F i b)
noncomputable def set2 (F : Int → Int → α) (y z : Int) (x : α) : Int → Int → α := fun a b => if a = y ∧ b = z then x else F a b
variable {n : Nat} {c : α → AV} {F : Int → Int → α} {v : α}
theorem s_compM {src : IP} {mm : List (Option Nat)} {T : VR β} {xs : List α} {f : α → List β} {Q : AV → St → Prop} {E : Ex → St → Prop} (hT : ∀ x v hp hp', T.r x v hp → T.r x v hp') (Zs : ZS src R xs lo hb) (s : Ext hb hp) (hz : xs.length < 1000000) (h : ∀ x ∈ xs, ∀ v hb1, Ext hb hb1 → R.r x v hb1 → ZF p T (f x) (setv (capLoc mm lo) 0 v) hb1)
    (k : ∀ hp' la as (M : Nat → List AV), Ext hp hp' → hp la = none → la ∉ as → as.length = xs.length → as.Nodup → (∀ a ∈ as, hp a = none) → hp' la = some (.list (as.map .ref)) → Ext (MHv as M) hp' → (∀ i x, xs[i]? = some x → All2 T (f x) (M i) eH) → Q (.ref la) ⟨lo, hp'⟩) : (pComp mm src (aName 0) (cTest none (cEmit p))) Q E ⟨lo, hp⟩ := by
  have a2 : ∀ {xs : List β} {vs : List AV} {h1 h2 : AH}, All2 T xs vs h1 → All2 T xs vs h2 := fun {xs} => by
    induction xs with
    | nil => intro vs h1 h2 q; cases q.nil_inv; trivial
    | cons x l ih => intro vs h1 h2 q; obtain ⟨v, vs, rfl, q1, q2⟩ := q.cons_inv; exact ⟨hT _ _ _ _ q1, ih q2⟩
  refine Zs hp s _ _ fun hb2 hp2 vs guard g hx hg => ?_
  refine ⟨fun i acc σ => i ≤ xs.length ∧ (∀ v, setv σ.loc 0 v = setv (capLoc mm lo) 0 v) ∧ ∃ (as : List Addr) (M : Nat → List AV), acc = as.map .ref ∧ as.length = i ∧ as.Nodup ∧ (∀ a ∈ as, hp a = none) ∧ Ext hp2 σ.hp ∧ Ext (MHv as M) σ.hp ∧ ∀ j x, j < i → xs[j]? = some x → All2 T (f x) (M j) eH, ⟨Nat.zero_le _, fun _ => rfl, [], fun _ => [], rfl, rfl, List.nodup_nil, nofun, Ext.refl _, mh_nil, fun j x hj => absurd hj (Nat.not_lt_zero j)⟩, ?_⟩
  rintro i acc ⟨lo', hp3⟩ ⟨hi, hl, as, M, rfl, hlen, hnd, hfr, e3, eM, hM⟩
  dsimp only at hl e3 eM
  refine ⟨hg _ (g.s.trans e3), ?_⟩
  cases hv : vs[i]? with
  | none =>
    have h1 : vs.length ≤ i := List.getElem?_eq_none_iff.mp hv
    rw [hx.len] at h1
    intro la zl
    have zl : hp3 la = none := zl
    have x := Ext.new (.list (as.map .ref)) zl
    refine k _ la as M (g.e.trans (e3.trans x)) ((g.e.trans e3).none zl) (fun q => ?_) (by (first | lia | omega)) hnd hfr (upd_self ..) (eM.trans x) fun j y hj => hM j y (by have := (List.getElem?_eq_some_iff.mp hj).1; (first | lia | omega)) hj
    obtain ⟨j, hj⟩ := List.mem_iff_getElem?.mp q
    have := eM _ _ (mh_at (M := M) hnd hj)
    rw [zl] at this; cases this
  | some v =>
    obtain ⟨x, h1, h2⟩ := hx.get' hv
    obtain ⟨q, _⟩ := List.getElem?_eq_some_iff.mp h1
    have hz3 := h x (List.mem_of_getElem? h1) v hb2 g.b h2
    rw [← hl v] at hz3
    refine hz3 hp3 (g.s.trans e3) _ _ fun hb4 hp4 u g4 hu => ⟨by rw [List.length_map]; (first | lia | omega), q, fun w => (setv_twice ..).trans (hl w), ?_⟩
    obtain ⟨a, us, rfl, za, ha, hr⟩ := hu
    have hna : a ∉ as := fun q => by
      obtain ⟨j, hj⟩ := List.mem_iff_getElem?.mp q
      have := eM _ _ (mh_at (M := M) hnd hj)
      rw [za] at this; cases this
    have hnd' : (as ++ [a]).Nodup := by
      rw [List.nodup_append]
      exact ⟨hnd, by simp, fun b hb c hc e => by rw [List.mem_singleton.mp hc] at e; exact hna (e ▸ hb)⟩
    refine ⟨as ++ [a], setR M i us, by rw [List.map_append]; rfl, by rw [List.length_append, hlen]; rfl, hnd', fun b hb => ?_, e3.trans g4.e, fun c o e => ?_, fun j y hj hy => ?_⟩
    · rcases List.mem_append.mp hb with hb | hb
      · exact hfr b hb
      · rw [List.mem_singleton.mp hb]; exact (g.e.trans e3).none za
    · have hc := mh_only (as := as ++ [a]) (by rw [e]; nofun)
      rcases List.mem_append.mp hc with hc | hc
      · obtain ⟨j, hj⟩ := List.mem_iff_getElem?.mp hc
        obtain ⟨hjl, _⟩ := List.getElem?_eq_some_iff.mp hj
        rw [mh_at hnd' (by rw [List.getElem?_append_left hjl]; exact hj)] at e
        have := eM _ _ (mh_at (M := M) hnd hj)
        have e2 : setR M i us j = M j := by unfold setR; rw [if_neg (by (first | lia | omega))]
        rw [e2] at e
        rw [← e]; exact g4.e _ _ this
      · rw [List.mem_singleton.mp hc] at e ⊢
        rw [mh_at hnd' (i := i) (by rw [List.getElem?_append_right (by (first | lia | omega)), hlen, Nat.sub_self]; rfl)] at e
        have e2 : setR M i us i = us := by unfold setR; rw [if_pos rfl]
        rw [e2] at e
        rw [← e]; exact g4.s _ _ ha
    · unfold setR
      by_cases w : j = i
      · rw [if_pos w]
        subst w
        rw [h1] at hy
        cases hy
        exact a2 hr
      · rw [if_neg w]; exact hM j y (by (first | lia | omega)) hy
theorem mh_congr {M' : Nat → List AV} (hn : as.Nodup) (h : ∀ i, i < as.length → M i = M' i) : MHv as M = MHv as M' := by
  funext c
  unfold MHv
  split
  · rename_i hc
    rw [h _ (List.idxOf_lt_length_iff.mpr hc)]
  · rfl
theorem Sep.mat {hp' : AH} (S : Sep hb ws hp) (e : Ext hp hp') (hla : hp la = none) (hna : la ∉ as) (hfr : ∀ a ∈ as, hp a = none) (h1 : hp' la = some (.list (as.map .ref))) (eM : Ext (MHv as M) hp') : Sep (upd hb la (.list (as.map .ref))) (MHv as M :: ws) hp' := by
  have S1 := S.push e eM fun a ha => hfr a (mh_only ha)
  refine ⟨fun a o q => ?_, S1.e, fun v hv a ha => ?_, S1.p⟩
  · by_cases w : a = la
    · rw [w, upd_self] at q; rw [w, h1]; exact q
    · rw [upd_ne w] at q; exact S1.s _ _ q
  · have w : a ≠ la := by
      rintro rfl
      rcases List.mem_cons.mp hv with rfl | hv
      · exact hna (mh_only ha)
      · exact ha ((S.e v hv).none hla)
    rw [upd_ne w]; exact S1.b v hv a ha
end
end
section
theorem hgt_get {l : List Int} {k : Int} (h0 : 0 ≤ k) (h : k < l.length) : l[k.toNat]? = some (hgt l k) := by
  unfold hgt
  have : k.toNat < l.length := by (first | lia | omega)
  simp [this]
noncomputable def delH (h : AH) (a : Addr) : AH := fun c => if c = a then none else h c
section
variable {α β : Type} {p q : EP} {R : VR α} {lo : Loc} {hb hp hb' hp' w : AH} {ws : List AH} {i j : Nat} {a l : Addr} {vs : List AV} {Q : Fl → St → Prop} {E : Ex → St → Prop} {rest : SP}
noncomputable def NoL (R : VR α) : Prop := ∀ x v (h : AH) a l, h a = some (.list l) → R.r x v h → R.r x v (delH h a)
theorem zf_catF {ns ms : List Int} (h : lo i = some (.ref a)) (ha : hb a = some (.flist (intsA ns))) (h2 : Z q (VL VI) ms lo hb) (hz : ns.length + ms.length ≤ 1000000) : ZF (pBin opAdd (pName i) q) VI (ns ++ ms) lo hb := fun hp s Q E k =>
  ⟨_, h, h2 hp s _ _ fun hb3 hp3 u g3 hu => by
    obtain ⟨b, rfl, hb'⟩ := vl_ints.mp hu
    refine ⟨_, _, lst_flist (g3.s _ _ (g3.b _ _ ha)), lst_of (g3.s _ _ hb'), by rw [List.length_map, List.length_map]; exact hz, fun c zc => ?_⟩
    have e0 : intsA ns ++ intsA ms = intsA (ns ++ ms) := (List.map_append ..).symm
    rw [e0]
    exact k _ _ _ (g3.trans (Gr.new g3.s _ zc)) (vf_ints.mpr ⟨c, rfl, g3.e.none zc, upd_self ..⟩)⟩
end
end
section
-- Schensted's insertion
noncomputable def least : List Int → Option Int
  | [] => none
  | a :: l => match least l with
    | none => some a
    | some b => some (if a ≤ b then a else b)
theorem least_none : ∀ {l : List Int}, least l = none → l = []
  | [], _ => rfl
  | a :: l, h => by
    unfold least at h
    cases q : least l <;> rw [q] at h <;> cases h
theorem least_some : ∀ {l : List Int} {m : Int}, least l = some m → m ∈ l ∧ ∀ x ∈ l, m ≤ x
  | [], _, h => by cases h
  | a :: l, m, h => by
    unfold least at h
    cases q : least l with
    | none =>
      rw [q] at h
      cases h
      rw [least_none q]
      exact ⟨List.mem_singleton.mpr rfl, fun x hx => by rw [List.mem_singleton.mp hx]; exact Int.le_refl _⟩
    | some b =>
      rw [q] at h
      obtain ⟨h1, h2⟩ := least_some q
      have h := Option.some.inj h
      by_cases c : a ≤ b
      · rw [if_pos c] at h
        subst h
        exact ⟨List.mem_cons_self .., fun x hx => (List.mem_cons.mp hx).elim (fun e => by rw [e]; exact Int.le_refl _) fun hx => Int.le_trans c (h2 x hx)⟩
      · rw [if_neg c] at h
        subst h
        exact ⟨List.mem_cons_of_mem _ h1, fun x hx => (List.mem_cons.mp hx).elim (fun e => by rw [e]; exact Int.le_of_lt (Int.not_le.mp c)) (h2 x)⟩
theorem least_of {l : List Int} {m : Int} (h1 : m ∈ l) (h2 : ∀ x ∈ l, m ≤ x) : least l = some m := by
  cases q : least l with
  | none => rw [least_none q] at h1; cases h1
  | some b =>
    obtain ⟨h3, h4⟩ := least_some q
    rw [Int.le_antisymm (h2 b h3) (h4 m h1)]
noncomputable def gtr (r : List Int) (y : Int) : List Int := r.filter fun x => decide (y < x)
theorem mem_gtr {r : List Int} {x y : Int} : x ∈ gtr r y ↔ x ∈ r ∧ y < x := by unfold gtr; rw [List.mem_filter, decide_eq_true_eq]
noncomputable def rep (r : List Int) (o y : Int) : List Int := r.set (r.idxOf o) y
noncomputable def ins : List (List Int) → Int → List (List Int)
  | [], y => [[y]]
  | r :: rs, y => match least (gtr r y) with
    | none => (r ++ [y]) :: rs
    | some o => rep r o y :: ins rs o
noncomputable def grow : List (List Int) → Int → Nat
  | [], _ => 0
  | r :: rs, y => match least (gtr r y) with
    | none => 0
    | some o => grow rs o + 1
noncomputable def app : List (List Int) → Nat → Int → List (List Int)
  | [], 0, M => [[M]]
  | [], m + 1, M => [] :: app [] m M
  | r :: rs, 0, M => (r ++ [M]) :: rs
  | r :: rs, m + 1, M => r :: app rs m M
noncomputable def Below (P : List (List Int)) (M : Int) : Prop := ∀ r ∈ P, ∀ x ∈ r, x < M
theorem Below.tail {r : List Int} {rs : List (List Int)} {M : Int} (h : Below (r :: rs) M) : Below rs M := fun s hs => h s (List.mem_cons_of_mem _ hs)
theorem gtr_nil {r : List Int} {y : Int} (h : ∀ x ∈ r, x ≤ y) : gtr r y = [] := List.filter_eq_nil_iff.mpr fun x hx => by
  rw [decide_eq_true_eq]; exact Int.not_lt.mpr (h x hx)
theorem ins_max {P : List (List Int)} {M : Int} (h : Below P M) : ins P M = app P 0 M := by
  cases P with
  | nil => rfl
  | cons r rs =>
    unfold ins
    rw [gtr_nil fun x hx => Int.le_of_lt (h r (List.mem_cons_self ..) x hx)]
    rfl
theorem idx_app {r : List Int} {M : Int} (h : M ∉ r) : (r ++ [M]).idxOf M = r.length := by
  rw [List.idxOf_append, if_neg h]; simp
theorem ins_app {M : Int} : ∀ {P : List (List Int)} {y : Int} {m : Nat}, Below P M → y < M → ins (app P m M) y = app (ins P y) (if grow P y = m then m + 1 else m) M
  | [], y, 0, _, hy => by
    show ins [[M]] y = app [[y]] 1 M
    unfold ins
    have : gtr [M] y = [M] := by unfold gtr; rw [List.filter_cons_of_pos (by simpa using hy)]; rfl
    rw [this]
    show rep [M] M y :: ins [] M = _
    have : rep [M] M y = [y] := by unfold rep; simp
    rw [this]
    rfl
  | [], y, m + 1, _, hy => rfl
  | r :: rs, y, 0, h, hy => by
    show ins ((r ++ [M]) :: rs) y = _
    have hr := h r (List.mem_cons_self ..)
    have e : gtr (r ++ [M]) y = gtr r y ++ [M] := by
      unfold gtr; rw [List.filter_append, List.filter_cons_of_pos (by simpa using hy)]; rfl
    unfold ins grow
    rw [e]
    cases q : least (gtr r y) with
    | none =>
      rw [least_none q]
      show rep (r ++ [M]) M y :: ins rs M = app ((r ++ [y]) :: rs) (0 + 1) M
      have : rep (r ++ [M]) M y = r ++ [y] := by
        unfold rep
        rw [idx_app fun hm => absurd (hr M hm) (Int.lt_irrefl _), List.set_append_right _ _ (Nat.le_refl _), Nat.sub_self]
        rfl
      rw [this, ins_max h.tail]
      rfl
    | some o =>
      obtain ⟨h1, h2⟩ := least_some q
      obtain ⟨h3, h4⟩ := mem_gtr.mp h1
      have : least (gtr r y ++ [M]) = some o := least_of (List.mem_append_left _ h1) fun x hx => (List.mem_append.mp hx).elim (h2 x) fun hx => by
        rw [List.mem_singleton.mp hx]; exact Int.le_of_lt (hr o h3)
      rw [this]
      show rep (r ++ [M]) o y :: ins rs o = app (rep r o y :: ins rs o) (if grow rs o + 1 = 0 then _ else 0) M
      rw [if_neg (Nat.succ_ne_zero _)]
      have : rep (r ++ [M]) o y = rep r o y ++ [M] := by
        unfold rep
        rw [List.idxOf_append, if_pos h3, List.set_append_left _ _ (List.idxOf_lt_length_iff.mpr h3)]
      rw [this]
      rfl
  | r :: rs, y, m + 1, h, hy => by
    show ins (r :: app rs m M) y = _
    have hr := h r (List.mem_cons_self ..)
    unfold ins grow
    cases q : least (gtr r y) with
    | none => rfl
    | some o =>
      have h3 := (mem_gtr.mp (least_some q).1).1
      show rep r o y :: ins (app rs m M) o = app (rep r o y :: ins rs o) (if grow rs o + 1 = m + 1 then m + 1 + 1 else m + 1) M
      rw [ins_app h.tail (hr o h3)]
      by_cases c : grow rs o = m
      · rw [if_pos c, if_pos (by rw [c])]; rfl
      · rw [if_neg c, if_neg fun e => c (Nat.succ.inj e)]; rfl
theorem mem_set_or {r : List Int} {i : Nat} {x y : Int} (h : x ∈ r.set i y) : x = y ∨ x ∈ r := (List.mem_or_eq_of_mem_set h).symm
theorem mem_ins : ∀ {P : List (List Int)} {y x : Int}, (∃ r ∈ ins P y, x ∈ r) → x = y ∨ ∃ r ∈ P, x ∈ r
  | [], y, x, ⟨r, h1, h2⟩ => by
    rw [List.mem_singleton.mp h1] at h2
    exact .inl (List.mem_singleton.mp h2)
  | r :: rs, y, x, ⟨s, h1, h2⟩ => by
    unfold ins at h1
    cases q : least (gtr r y) with
    | none =>
      rw [q] at h1
      rcases List.mem_cons.mp h1 with rfl | h1
      · rcases List.mem_append.mp h2 with h2 | h2
        · exact .inr ⟨r, List.mem_cons_self .., h2⟩
        · exact .inl (List.mem_singleton.mp h2)
      · exact .inr ⟨s, List.mem_cons_of_mem _ h1, h2⟩
    | some o =>
      rw [q] at h1
      have h3 := (mem_gtr.mp (least_some q).1).1
      rcases List.mem_cons.mp h1 with rfl | h1
      · rcases mem_set_or h2 with h2 | h2
        · exact .inl h2
        · exact .inr ⟨r, List.mem_cons_self .., h2⟩
      · rcases mem_ins ⟨s, h1, h2⟩ with rfl | ⟨s', h4, h5⟩
        · exact .inr ⟨r, List.mem_cons_self .., h3⟩
        · exact .inr ⟨s', List.mem_cons_of_mem _ h4, h5⟩
noncomputable def tab (w : List Int) : List (List Int) := w.foldl ins []
theorem tab_snoc {w : List Int} {y : Int} : tab (w ++ [y]) = ins (tab w) y := by unfold tab; rw [List.foldl_append]; rfl
theorem snoc_ind {α : Type} {p : List α → Prop} (h0 : p []) (h1 : ∀ l a, p l → p (l ++ [a])) (l : List α) : p l := by
  have : ∀ l : List α, p l.reverse := fun l => by
    induction l with
    | nil => exact h0
    | cons a l ih => rw [List.reverse_cons]; exact h1 _ _ ih
  have h := this l.reverse
  rwa [List.reverse_reverse] at h
theorem mem_tab {w : List Int} : ∀ {x : Int}, (∃ r ∈ tab w, x ∈ r) → x ∈ w := by
  induction w using snoc_ind with
  | h0 => rintro x ⟨r, h, _⟩; cases h
  | h1 w y ih =>
    intro x h
    rw [tab_snoc] at h
    rcases mem_ins h with rfl | h
    · exact List.mem_append_right _ (List.mem_singleton.mpr rfl)
    · exact List.mem_append_left _ (ih h)
theorem below_tab {w : List Int} {M : Int} (h : ∀ x ∈ w, x < M) : Below (tab w) M := fun r hr x hx => h x (mem_tab ⟨r, hr, hx⟩)
-- shapes
noncomputable def shp (P : List (List Int)) (i : Nat) : Nat := (P.getD i []).length
noncomputable def inc (f : Nat → Nat) (m : Nat) : Nat → Nat := fun i => if i = m then f i + 1 else f i
theorem inc_self {f : Nat → Nat} {m : Nat} : inc f m m = f m + 1 := if_pos rfl
theorem inc_ne {f : Nat → Nat} {m i : Nat} (h : i ≠ m) : inc f m i = f i := if_neg h
theorem inc_comm (f : Nat → Nat) (a b : Nat) : inc (inc f a) b = inc (inc f b) a := by
  funext i
  by_cases h : i = a
  · subst h
    by_cases h2 : i = b
    · subst h2; rfl
    · rw [inc_ne h2, inc_self, inc_self, inc_ne h2]
  · rw [inc_ne (f := inc f b) h]
    by_cases h2 : i = b
    · subst h2; rw [inc_self, inc_self, inc_ne h]
    · rw [inc_ne h2, inc_ne h, inc_ne h2]
theorem inc_inj {f : Nat → Nat} {a b : Nat} (h : inc f a = inc f b) : a = b := Classical.byContradiction fun c => by
  have := congrFun h a
  rw [inc_self, inc_ne c] at this
  (first | lia | omega)
theorem shp_app {M : Int} : ∀ {P : List (List Int)} {m : Nat}, shp (app P m M) = inc (shp P) m
  | [], 0 => by funext i; cases i <;> rfl
  | [], m + 1 => by
    funext i
    cases i with
    | zero => rfl
    | succ i =>
      have := congrFun (shp_app (M := M) (P := []) (m := m)) i
      refine Eq.trans this ?_
      by_cases c : i = m
      · rw [c, inc_self, inc_self]; rfl
      · rw [inc_ne c, inc_ne fun e => c (Nat.succ.inj e)]; rfl
  | r :: rs, 0 => by
    funext i
    cases i with
    | zero => show (r ++ [M]).length = _; rw [List.length_append]; rfl
    | succ i => rfl
  | r :: rs, m + 1 => by
    funext i
    cases i with
    | zero => rfl
    | succ i =>
      have := congrFun (shp_app (M := M) (P := rs) (m := m)) i
      refine Eq.trans this ?_
      by_cases c : i = m
      · rw [c, inc_self, inc_self]; rfl
      · rw [inc_ne c, inc_ne fun e => c (Nat.succ.inj e)]; rfl
theorem shp_ins : ∀ {P : List (List Int)} {y : Int}, shp (ins P y) = inc (shp P) (grow P y)
  | [], y => by funext i; cases i <;> rfl
  | r :: rs, y => by
    unfold ins grow
    cases q : least (gtr r y) with
    | none =>
      funext i
      cases i with
      | zero => show (r ++ [y]).length = _; rw [List.length_append]; rfl
      | succ i => rfl
    | some o =>
      funext i
      cases i with
      | zero => show (rep r o y).length = _; unfold rep; rw [List.length_set]; rfl
      | succ i =>
        have := congrFun (shp_ins (P := rs) (y := o)) i
        refine Eq.trans this ?_
        show _ = inc _ (grow rs o + 1) (i + 1)
        by_cases c : i = grow rs o
        · rw [c, inc_self, inc_self]; rfl
        · rw [inc_ne c, inc_ne fun e => c (Nat.succ.inj e)]; rfl
noncomputable def S (w : List Int) : Nat → Nat := shp (tab w)
theorem S_snoc {w : List Int} {y : Int} : S (w ++ [y]) = inc (S w) (grow (tab w) y) := by unfold S; rw [tab_snoc, shp_ins]
theorem S_max {w : List Int} {M : Int} (h : ∀ x ∈ w, x < M) : S (w ++ [M]) = inc (S w) 0 := by
  unfold S; rw [tab_snoc, ins_max (below_tab h), shp_app]
theorem tab_del {a b : List Int} {M : Int} (h : ∀ x ∈ a ++ b, x < M) : ∃ m, tab (a ++ M :: b) = app (tab (a ++ b)) m M := by
  induction b using snoc_ind with
  | h0 => exact ⟨0, by rw [tab_snoc, List.append_nil]; exact ins_max (below_tab fun x hx => h x (List.mem_append_left _ hx))⟩
  | h1 b y ih =>
    rw [← List.append_assoc] at h
    obtain ⟨m, e⟩ := ih fun x hx => h x (List.mem_append_left _ hx)
    refine ⟨if grow (tab (a ++ b)) y = m then m + 1 else m, ?_⟩
    · rw [show a ++ M :: (b ++ [y]) = (a ++ M :: b) ++ [y] from by simp, tab_snoc, e, ← List.append_assoc, tab_snoc]
      exact ins_app (below_tab fun x hx => h x (List.mem_append_left _ hx)) (h y (List.mem_append_right _ (List.mem_singleton.mpr rfl)))
theorem S_del {a b : List Int} {M : Int} (h : ∀ x ∈ a ++ b, x < M) : ∃ m, S (a ++ M :: b) = inc (S (a ++ b)) m := by
  obtain ⟨m, e⟩ := tab_del h
  exact ⟨m, by unfold S; rw [e, shp_app]⟩
structure RYZ (b m p : Nat) : Prop where
  ne : b ≠ m → p = m
  eq : b = m → p = m + 1
theorem yz {a b : List Int} {M y : Int} {m g : Nat} (h : ∀ x ∈ a ++ b, x < M) (hy : y < M) (hm : S (a ++ M :: b) = inc (S (a ++ b)) m) (hg : S (a ++ (b ++ [y])) = inc (S (a ++ b)) g) : ∃ p, RYZ g m p ∧ S (a ++ M :: (b ++ [y])) = inc (inc (S (a ++ b)) g) p := by
  obtain ⟨m', e⟩ := tab_del h
  have em : m' = m := inc_inj (f := S (a ++ b)) (by rw [← hm]; unfold S; rw [e, shp_app])
  subst em
  have eg : grow (tab (a ++ b)) y = g := inc_inj (f := S (a ++ b)) (by rw [← hg, ← List.append_assoc, S_snoc])
  refine ⟨if g = m' then m' + 1 else m', ⟨fun q => if_neg q, fun q => if_pos q⟩, ?_⟩
  rw [show a ++ M :: (b ++ [y]) = (a ++ M :: b) ++ [y] from by simp, ← eg]
  unfold S
  rw [tab_snoc, e, ins_app (below_tab h) hy, shp_app, shp_ins]
end
section
noncomputable def Ant (f : Nat → Nat) : Prop := ∀ i, f (i + 1) ≤ f i
theorem Ant.le {f : Nat → Nat} (h : Ant f) {i j : Nat} (hij : i ≤ j) : f j ≤ f i := by
  induction hij with
  | refl => exact Nat.le_refl _
  | step _ ih => exact Nat.le_trans (h _) ih
theorem Ant.up {f : Nat → Nat} {m : Nat} (h : Ant (inc f m)) {i : Nat} (hi : i < m) : f m < f i := by
  have := h.le (Nat.le_of_lt hi)
  rw [inc_self, inc_ne (Nat.ne_of_lt hi)] at this
  exact this
theorem Ant.inc {f : Nat → Nat} {m : Nat} (h : Ant f) (hm : ∀ i, i + 1 = m → f m < f i) : Ant (inc f m) := fun i => by
  by_cases c : i + 1 = m
  · rw [c, inc_self, inc_ne (by (first | lia | omega))]; exact hm i c
  · rw [inc_ne c]
    by_cases d : i = m
    · rw [d, inc_self]; exact Nat.le_succ_of_le (h m)
    · rw [inc_ne d]; exact h i
theorem Ant.two {f : Nat → Nat} {a b : Nat} (h : Ant f) (ha : Ant (Mine.inc f a)) (hb : Ant (Mine.inc f b)) (n : a ≠ b) : Ant (Mine.inc (Mine.inc f a) b) := ha.inc fun i e => by
  rw [inc_ne (Ne.symm n)]
  have := hb.up (i := i) (by (first | lia | omega))
  by_cases c : i = a
  · rw [c, inc_self]; rw [c] at this; (first | lia | omega)
  · rw [inc_ne c]; exact this
structure Cn (f : Nat → Nat) (a n : Nat) : Prop where
  le : n ≤ a
  eq : f n = f a
  lt : ∀ i, i < n → f a < f i
structure RXY (f : Nat → Nat) (a b e : Nat) : Prop where
  ne : a ≠ b → e = b
  eq : a = b → e = a ∨ (e = a + 1 ∧ f (a + 1) = f a)
structure RXZ (f : Nat → Nat) (a m n : Nat) : Prop where
  ne : a ≠ m → n = m
  eq : a = m → Cn (inc f a) a n
theorem cube {f : Nat → Nat} {a b m e n p q : Nat} (hf : Ant f) (ha : Ant (inc f a)) (hb : Ant (inc f b)) (hm : Ant (inc f m)) (he : Ant (inc (inc f a) e)) (x : RXY f a b e) (y : RXZ f a m n) (z : RYZ b m p) (t : RYZ e n q) :
    (∃ a' b' e', inc (inc f m) a' = inc (inc f a) n ∧ inc (inc f m) b' = inc (inc f b) p ∧ inc (inc (inc f m) a') e' = inc (inc (inc f a) e) q ∧ RXY (inc f m) a' b' e') ∧
    ∃ a', inc (inc f b) a' = inc (inc f a) e ∧ RXZ (inc f b) a' p q := by
  by_cases hab : a = b
  · subst hab
    by_cases ham : a = m
    · subst ham
      obtain rfl := z.eq rfl
      have c := y.eq rfl
      rcases x.eq rfl with rfl | ⟨rfl, h⟩
      · have hn : n = e := Classical.byContradiction fun w => by
          have h1 := he.up (i := n) (Nat.lt_of_le_of_ne c.le w)
          have := c.eq
          (first | lia | omega)
        subst hn
        obtain rfl := t.eq rfl
        exact ⟨⟨n, n + 1, n + 1, rfl, rfl, rfl, fun _ => rfl, fun w => by (first | lia | omega)⟩, n, rfl, fun _ => rfl, fun w => by (first | lia | omega)⟩
      · have hn := c.le
        obtain rfl := t.ne (by (first | lia | omega))
        refine ⟨⟨q, a + 1, a + 1, rfl, rfl, inc_comm .., fun _ => rfl, fun w => by (first | lia | omega)⟩, a + 1, rfl, fun w => absurd rfl w, fun _ => ⟨by (first | lia | omega), ?_, fun i hi => ?_⟩⟩
        · rw [inc_ne (by (first | lia | omega)), c.eq, inc_self, inc_self, inc_ne (by (first | lia | omega)), h]
        · have := c.lt i hi
          rw [inc_self] at this
          rw [inc_self, inc_ne (by (first | lia | omega)), inc_ne (by (first | lia | omega) : i ≠ a + 1), h]
          exact this
    · have hen : e ≠ m := fun w => by
        rcases x.eq rfl with q | ⟨q, h⟩
        · exact ham (q.symm.trans w)
        · have := hm.up (i := a) (by (first | lia | omega))
          rw [← w, q, h] at this
          exact absurd this (Nat.lt_irrefl _)
      obtain rfl := z.ne ham
      obtain rfl := y.ne ham
      obtain rfl := t.ne hen
      refine ⟨⟨a, a, e, inc_comm .., inc_comm .., by rw [inc_comm f q a, inc_comm (inc f a) q e], fun w => absurd rfl w, fun _ => ?_⟩, e, rfl, fun _ => rfl, fun w => absurd w hen⟩
      rcases x.eq rfl with w | ⟨w, h⟩
      · exact .inl w
      · exact .inr ⟨w, by rw [inc_ne (by (first | lia | omega)), inc_ne ham, h]⟩
  · obtain rfl := x.ne hab
    by_cases ham : a = m
    · subst ham
      have c := y.eq rfl
      obtain rfl := z.ne (Ne.symm hab)
      by_cases hne : e = n
      · subst hne
        obtain rfl := t.eq rfl
        have hlt : e < p := Nat.lt_of_le_of_ne c.le (Ne.symm hab)
        have c1 : inc f p (e + 1) = inc f p e := Nat.le_antisymm (ha e) (by rw [c.eq]; exact ha.le (by (first | lia | omega)))
        refine ⟨⟨e, e, e + 1, rfl, inc_comm .., rfl, fun w => absurd rfl w, fun _ => .inr ⟨rfl, c1⟩⟩, p, inc_comm .., fun w => absurd rfl w, fun _ => ?_⟩
        rw [inc_comm]
        refine ⟨hlt, ?_, fun i hi => ?_⟩
        · rw [inc_ne (by (first | lia | omega)), inc_ne hab, c1]; exact c.eq
        · rw [inc_ne hab]
          by_cases w : i = e
          · rw [w, inc_self (f := inc f p) (m := e), c.eq]; exact Nat.lt_succ_self _
          · rw [inc_ne w]; exact c.lt i (by (first | lia | omega))
      · obtain rfl := t.ne hne
        refine ⟨⟨q, e, e, rfl, inc_comm .., inc_comm .., fun _ => rfl, fun w => absurd w.symm hne⟩, p, inc_comm .., fun w => absurd rfl w, fun _ => ?_⟩
        rw [inc_comm]
        refine ⟨c.le, ?_, fun i hi => ?_⟩
        · rw [inc_ne (Ne.symm hne), inc_ne hab]; exact c.eq
        · rw [inc_ne hab]
          have := c.lt i hi
          by_cases w : i = e
          · rw [w, inc_self (f := inc f p) (m := e)]; rw [w] at this; exact Nat.lt_succ_of_lt this
          · rw [inc_ne w]; exact this
    · obtain rfl := y.ne ham
      by_cases hbm : e = n
      · subst hbm
        obtain rfl := z.eq rfl
        obtain rfl := t.eq rfl
        refine ⟨⟨a, e + 1, e + 1, inc_comm .., rfl, by rw [inc_comm f e a], fun _ => rfl, fun w => .inl w.symm⟩, a, inc_comm .., fun _ => rfl, fun w => ?_⟩
        subst w
        refine ⟨Nat.le_refl _, rfl, fun i hi => ?_⟩
        rw [inc_self, inc_ne (by (first | lia | omega) : e + 1 ≠ e), inc_ne (by (first | lia | omega) : i ≠ e + 1)]
        have h1 := ha.up (i := e) (by (first | lia | omega))
        by_cases w : i = e
        · rw [w, inc_self]; (first | lia | omega)
        · rw [inc_ne w]
          have := hb.up (i := i) (by (first | lia | omega))
          (first | lia | omega)
      · obtain rfl := z.ne hbm
        obtain rfl := t.ne hbm
        exact ⟨⟨a, e, e, inc_comm .., inc_comm .., by rw [inc_comm f q a, inc_comm _ q e], fun _ => rfl, fun w => absurd w hab⟩, a, inc_comm .., fun _ => rfl, fun w => absurd w ham⟩
theorem nil_or_snoc {α : Type} (l : List α) : l = [] ∨ ∃ u y, l = u ++ [y] := by
  induction l using snoc_ind with
  | h0 => exact .inl rfl
  | h1 l a _ => exact .inr ⟨l, a, rfl⟩
theorem has_max {l : List Int} (h : l ≠ []) : ∃ M ∈ l, ∀ x ∈ l, x ≤ M := by
  induction l with
  | nil => exact absurd rfl h
  | cons a l ih =>
    by_cases c : l = []
    · subst c; exact ⟨a, List.mem_singleton.mpr rfl, fun x hx => by rw [List.mem_singleton.mp hx]; exact Int.le_refl _⟩
    · obtain ⟨M, h1, h2⟩ := ih c
      by_cases d : a ≤ M
      · exact ⟨M, List.mem_cons_of_mem _ h1, fun x hx => (List.mem_cons.mp hx).elim (fun e => e ▸ d) (h2 x)⟩
      · exact ⟨a, List.mem_cons_self .., fun x hx => (List.mem_cons.mp hx).elim (fun e => by rw [e]; exact Int.le_refl _) fun hx => Int.le_trans (h2 x hx) (Int.le_of_lt (Int.not_le.mp d))⟩
theorem split_max {l : List Int} (h : l ≠ []) (hn : l.Nodup) : ∃ a M b, l = a ++ M :: b ∧ ∀ x ∈ a ++ b, x < M := by
  obtain ⟨M, h1, h2⟩ := has_max h
  obtain ⟨a, b, rfl⟩ := List.append_of_mem h1
  refine ⟨a, M, b, rfl, fun x hx => ?_⟩
  have hd := List.nodup_append.mp hn
  have hc := List.nodup_cons.mp hd.2.1
  rcases List.mem_append.mp hx with q | q
  · exact Int.lt_iff_le_and_ne.mpr ⟨h2 x (List.mem_append_left _ q), fun e => hd.2.2 x q M (List.mem_cons_self ..) e⟩
  · exact Int.lt_iff_le_and_ne.mpr ⟨h2 x (List.mem_append_right _ (List.mem_cons_of_mem _ q)), fun e => hc.1 (e ▸ q)⟩
theorem nodup_del {a b : List Int} {M : Int} (h : (a ++ M :: b).Nodup) : (a ++ b).Nodup := h.sublist (List.Sublist.append (List.Sublist.refl a) (List.sublist_cons_self M b))
theorem S_ant' : ∀ (n : Nat) (w : List Int), w.length ≤ n → w.Nodup → Ant (S w) := fun n => by
  induction n with
  | zero => intro w h _; rw [List.length_eq_zero_iff.mp (Nat.le_zero.mp h)]; exact fun i => Nat.le_refl _
  | succ n ih =>
    intro w hl hn
    rcases nil_or_snoc w with rfl | ⟨u, y, rfl⟩
    · exact fun i => Nat.le_refl _
    rw [List.length_append, List.length_singleton] at hl
    have hul : u.length ≤ n := Nat.le_of_succ_le_succ hl
    have hu : u.Nodup := (List.nodup_append.mp hn).1
    obtain ⟨a, M, b, e, hM⟩ := split_max (by simp) hn
    rcases nil_or_snoc b with rfl | ⟨b', y', rfl⟩
    · obtain ⟨rfl, e2⟩ := List.append_inj' e rfl
      cases e2
      rw [S_max fun x hx => hM x (List.mem_append_left _ hx)]
      exact (ih _ hul hu).inc fun i h => by (first | lia | omega)
    · have e' : u ++ [y] = (a ++ M :: b') ++ [y'] := by rw [e]; simp
      obtain ⟨rfl, e2⟩ := List.append_inj' e' rfl
      cases e2
      have hM' : ∀ x ∈ a ++ b', x < M := fun x hx => hM x (by rw [← List.append_assoc]; exact List.mem_append_left _ hx)
      obtain ⟨m, em⟩ := S_del hM'
      have eg : S (a ++ (b' ++ [y])) = inc (S (a ++ b')) (grow (tab (a ++ b')) y) := by rw [← List.append_assoc]; exact S_snoc
      obtain ⟨p, z, ep⟩ := yz hM' (hM y (by simp)) em eg
      rw [e, ep]
      have l1 : (a ++ b').length + 1 = (a ++ M :: b').length := by simp; (first | lia | omega)
      have a0 : Ant (S (a ++ M :: b')) := ih _ hul hu
      have a1 : Ant (S (a ++ (b' ++ [y]))) := ih _ (by rw [← List.append_assoc, List.length_append, List.length_singleton]; (first | lia | omega)) (by rw [e] at hn; exact nodup_del hn)
      have a2 : Ant (S (a ++ b')) := ih _ (by (first | lia | omega)) (nodup_del hu)
      rw [em] at a0
      rw [eg] at a1
      by_cases c : grow (tab (a ++ b')) y = m
      · rw [z.eq c]
        refine a1.inc fun i h => ?_
        have : i = m := by (first | lia | omega)
        subst this
        rw [c, inc_self, inc_ne (by (first | lia | omega))]
        exact Nat.lt_succ_of_le (a2 i)
      · rw [z.ne c]
        exact a2.two a1 a0 c
theorem S_ant {w : List Int} (h : w.Nodup) : Ant (S w) := S_ant' _ w (Nat.le_refl _) h
end
section
structure Z0 (f : Nat → Nat) (z : Nat) : Prop where
  zz : f z = 0
  lt : ∀ i, i < z → 0 < f i
theorem xm {w : List Int} {M : Int} (h : ∀ x ∈ w, x < M) (hn : w.Nodup) : ∃ z, S (M :: w) = inc (S w) z ∧ Z0 (S w) z := by
  induction w using snoc_ind with
  | h0 => exact ⟨0, S_max (w := []) (M := M) nofun, rfl, fun i hi => absurd hi (Nat.not_lt_zero _)⟩
  | h1 w y ih =>
    obtain ⟨z, e, hz⟩ := ih (fun x hx => h x (List.mem_append_left _ hx)) (List.nodup_append.mp hn).1
    obtain ⟨p, r, ep⟩ := yz (a := []) (b := w) (fun x hx => h x (List.mem_append_left _ hx)) (h y (List.mem_append_right _ (List.mem_singleton.mpr rfl))) e (S_snoc (w := w) (y := y))
    have ha := S_ant (List.nodup_append.mp hn).1
    show ∃ z, S ([] ++ M :: (w ++ [y])) = _ ∧ _
    rw [ep, S_snoc]
    show ∃ z, inc (inc (S w) _) p = _ ∧ _
    generalize grow (tab w) y = g at *
    refine ⟨p, rfl, ?_⟩
    by_cases c : g = z
    · rw [r.eq c, c]
      refine ⟨?_, fun i hi => ?_⟩
      · rw [inc_ne (by (first | lia | omega))]
        have := ha z
        rw [hz.zz] at this
        exact Nat.le_zero.mp this
      · by_cases d : i = z
        · rw [d, inc_self]; exact Nat.succ_pos _
        · rw [inc_ne d]; exact hz.lt i (by (first | lia | omega))
    · rw [r.ne c]
      refine ⟨by rw [inc_ne (Ne.symm c)]; exact hz.zz, fun i hi => ?_⟩
      have := hz.lt i hi
      unfold inc
      split
      · exact Nat.succ_pos _
      · exact this
noncomputable def XY (x : Int) (w : List Int) (y : Int) : Prop := ∃ a b e, S (x :: w) = inc (S w) a ∧ S (w ++ [y]) = inc (S w) b ∧ S (x :: (w ++ [y])) = inc (inc (S w) a) e ∧ RXY (S w) a b e
noncomputable def XZ (x : Int) (u : List Int) (M : Int) (v : List Int) : Prop := ∃ a m n, S (x :: (u ++ v)) = inc (S (u ++ v)) a ∧ S (u ++ M :: v) = inc (S (u ++ v)) m ∧ S (x :: (u ++ M :: v)) = inc (inc (S (u ++ v)) a) n ∧ RXZ (S (u ++ v)) a m n
theorem XY.one {x y : Int} {w : List Int} (h : XY x w y) : ∃ a, S (x :: (w ++ [y])) = inc (S (w ++ [y])) a := by
  obtain ⟨a, b, e, h1, h2, h3, r⟩ := h
  rw [h2, h3]
  by_cases c : a = b
  · subst c; exact ⟨e, rfl⟩
  · rw [r.ne c]; exact ⟨a, inc_comm ..⟩
theorem xyz {x y M : Int} {u v : List Int} (hn : (x :: (u ++ M :: (v ++ [y]))).Nodup) (hM : ∀ z ∈ x :: (u ++ (v ++ [y])), z < M) (hx : XY x (u ++ v) y) (hz : XZ x u M v) : XY x (u ++ M :: v) y ∧ XZ x u M (v ++ [y]) := by
  obtain ⟨a, b, e, x1, x2, x3, X⟩ := hx
  obtain ⟨a', m, n, z1, z2, z3, Z⟩ := hz
  obtain rfl : a' = a := inc_inj (z1.symm.trans x1)
  have hu : ∀ z ∈ u ++ v, z < M := fun z hz => hM z (List.mem_cons_of_mem _ (by rw [← List.append_assoc]; exact List.mem_append_left _ hz))
  have hy : y < M := hM y (by simp)
  obtain ⟨p, R, yp⟩ := yz hu hy z2 (by rw [← List.append_assoc]; exact x2)
  have hu' : ∀ z ∈ (x :: u) ++ v, z < M := fun z hz => (List.mem_cons.mp hz).elim (fun e => hM z (by rw [e]; exact List.mem_cons_self ..)) (hu z)
  have k1 : S ((x :: u) ++ v) = inc (S (u ++ v)) a' := x1
  obtain ⟨q, T, yq⟩ := yz (a := x :: u) (b := v) (m := n) (g := e) hu' hy (by rw [k1]; exact z3) (by rw [k1, ← x3, ← List.append_assoc]; rfl)
  rw [k1] at yq
  have n1 : (x :: (u ++ (v ++ [y]))).Nodup := nodup_del (a := x :: u) hn
  have n2 : (x :: (u ++ v)).Nodup := n1.sublist (List.Sublist.cons_cons _ (List.Sublist.append (List.Sublist.refl u) (List.sublist_append_left v [y])))
  have n3 : (u ++ M :: v).Nodup := (List.nodup_cons.mp hn).2.sublist (List.Sublist.append (List.Sublist.refl u) (List.Sublist.cons_cons _ (List.sublist_append_left v [y])))
  have c := cube (S_ant (List.nodup_cons.mp n2).2) (x1 ▸ S_ant n2) (x2 ▸ S_ant (by rw [List.append_assoc]; exact (List.nodup_cons.mp n1).2)) (z2 ▸ S_ant n3) (x3 ▸ S_ant (by rw [List.append_assoc]; exact n1)) X Z R T
  obtain ⟨⟨a2, b2, e2, c1, c2, c3, C⟩, a3, c4, C'⟩ := c
  have as1 : u ++ M :: (v ++ [y]) = (u ++ M :: v) ++ [y] := by simp
  have as2 : u ++ (v ++ [y]) = (u ++ v) ++ [y] := by simp
  refine ⟨⟨a2, b2, e2, ?_, ?_, ?_, ?_⟩, a3, p, q, ?_, ?_, ?_, ?_⟩
  · rw [z3, z2, c1]
  · rw [z2, c2, ← yp, as1]
  · rw [z2, c3, ← yq, ← as1]; rfl
  · rw [z2]; exact C
  · rw [as2, x3, x2, c4]
  · rw [yp, as2, x2]
  · rw [as2, x2, c4, ← yq]; rfl
  · rw [as2, x2]; exact C'
noncomputable def XA (n : Nat) : Prop := (∀ x w y, w.length = n → (x :: (w ++ [y])).Nodup → XY x w y) ∧ (∀ x u M v, (u ++ v).length = n → (x :: (u ++ v)).Nodup → (∀ z ∈ x :: (u ++ v), z < M) → XZ x u M v)
theorem xstep {n : Nat} (ih : ∀ k, k + 1 = n → XA k) : XA n := by
    have xf : ∀ x w, w.length = n → (x :: w).Nodup → ∃ a, S (x :: w) = inc (S w) a := fun x w hl hn => by
      rcases nil_or_snoc w with rfl | ⟨w, y, rfl⟩
      · refine ⟨0, ?_⟩
        funext i
        cases i <;> rfl
      · rw [List.length_append, List.length_singleton] at hl
        exact ((ih w.length hl).1 x w y rfl hn).one
    have stp : ∀ x y M u v, (u ++ v).length + 1 = n → (x :: (u ++ M :: (v ++ [y]))).Nodup → (∀ z ∈ x :: (u ++ (v ++ [y])), z < M) → XY x (u ++ M :: v) y ∧ XZ x u M (v ++ [y]) := fun x y M u v hl hn hM => by
      have n1 : (x :: (u ++ (v ++ [y]))).Nodup := nodup_del (a := x :: u) hn
      rw [← List.append_assoc] at n1
      refine xyz hn hM ((ih _ hl).1 x (u ++ v) y rfl n1) ((ih _ hl).2 x u M v rfl (n1.sublist (List.Sublist.cons_cons _ (List.sublist_append_left _ _))) fun z hz => hM z ?_)
      rcases List.mem_cons.mp hz with q | q
      · rw [q]; exact List.mem_cons_self ..
      · rw [← List.append_assoc]; exact List.mem_cons_of_mem _ (List.mem_append_left _ q)
    refine ⟨fun x w y hl hn => ?_, fun x u M v hl hn hM => ?_⟩
    · have hw : w.Nodup := (List.nodup_append.mp (List.nodup_cons.mp hn).2).1
      have hxw : (x :: w).Nodup := hn.sublist (List.Sublist.cons_cons _ (List.sublist_append_left _ _))
      obtain ⟨a, M, b, e, hM⟩ := split_max (l := x :: (w ++ [y])) nofun hn
      rcases a with _ | ⟨x', a⟩
      · -- the first letter is the greatest
        obtain ⟨rfl, rfl⟩ := List.cons.inj e
        obtain ⟨z, e1, h1⟩ := xm (w := w) (M := x) (fun z hz => hM z (show z ∈ w ++ [y] from List.mem_append_left _ hz)) hw
        obtain ⟨z', e2, h2⟩ := xm (w := w ++ [y]) (M := x) hM (List.nodup_cons.mp hn).2
        have e3 := S_snoc (w := w) (y := y)
        rw [e3] at e2 h2
        have ha := S_ant hw
        generalize grow (tab w) y = g at *
        by_cases c : z = g
        · subst c
          have h4 : S w (z + 1) = S w z := by
            have := ha z
            rw [h1.zz] at this ⊢
            exact Nat.le_zero.mp this
          have h5 : z' = z + 1 := by
            rcases Nat.lt_trichotomy z' (z + 1) with q | q | q
            · have h6 := h2.zz
              by_cases d : z' = z
              · rw [d, inc_self] at h6; (first | lia | omega)
              · rw [inc_ne d] at h6
                have := h1.lt z' (by (first | lia | omega))
                (first | lia | omega)
            · exact q
            · have := h2.lt (z + 1) q
              rw [inc_ne (by (first | lia | omega)), h4, h1.zz] at this
              (first | lia | omega)
          exact ⟨z, z, z + 1, e1, e3, by rw [e2, h5], fun w => absurd rfl w, fun _ => .inr ⟨rfl, h4⟩⟩
        · have h5 : z' = z := by
            rcases Nat.lt_trichotomy z' z with q | q | q
            · have h6 := h2.zz
              have h7 := h1.lt z' q
              unfold inc at h6
              split at h6 <;> (first | lia | omega)
            · exact q
            · have := h2.lt z q
              rw [inc_ne c, h1.zz] at this
              (first | lia | omega)
          exact ⟨z, g, g, e1, e3, by rw [e2, h5]; exact inc_comm .., fun _ => rfl, fun w => absurd w c⟩
      · obtain ⟨hx', e0⟩ := List.cons.inj e
        subst hx'
        clear e
        have e : w ++ [y] = a ++ M :: b := e0
        clear e0
        rcases nil_or_snoc b with rfl | ⟨b, y', rfl⟩
        · -- the last one
          obtain ⟨rfl, e2⟩ := List.append_inj' e rfl
          cases e2
          obtain ⟨g, eg⟩ := xf x w hl hxw
          refine ⟨g, 0, 0, eg, S_max fun z hz => hM z (by simp [hz]), ?_, fun _ => rfl, fun w => .inl w.symm⟩
          rw [← eg]
          exact S_max (w := x :: w) fun z hz => hM z (by simpa using hz)
        · have e' : w ++ [y] = (a ++ M :: b) ++ [y'] := by rw [e]; simp
          obtain ⟨rfl, e2⟩ := List.append_inj' e' rfl
          cases e2
          rw [e] at hn
          exact (stp x y M a b (by rw [← hl]; simp; (first | lia | omega)) hn hM).1
    · rcases nil_or_snoc v with rfl | ⟨v, y, rfl⟩
      · rw [List.append_nil] at hl hn hM
        obtain ⟨a, ea⟩ := xf x u hl hn
        refine ⟨a, 0, 0, by rw [List.append_nil]; exact ea, by rw [List.append_nil]; exact S_max fun z hz => hM z (List.mem_cons_of_mem _ hz), ?_, fun _ => rfl, fun w => ⟨Nat.zero_le _, by rw [w], fun i hi => absurd hi (Nat.not_lt_zero _)⟩⟩
        rw [List.append_nil, ← ea]
        exact S_max (w := x :: u) hM
      · refine (stp x y M u v (by rw [← hl]; simp; (first | lia | omega)) ?_ hM).2
        have : M ∉ x :: (u ++ (v ++ [y])) := fun q => absurd (hM M q) (Int.lt_irrefl _)
        have p : (x :: (u ++ M :: (v ++ [y]))).Perm (M :: (x :: (u ++ (v ++ [y])))) := List.perm_middle (l₁ := x :: u)
        exact p.nodup_iff.mpr (List.nodup_cons.mpr ⟨this, hn⟩)
theorem xmain (n : Nat) : XA n := by
  induction n with
  | zero => exact xstep fun k h => by (first | lia | omega)
  | succ n ih => exact xstep fun k h => (Nat.succ.inj h) ▸ ih
theorem xy {x y : Int} {w : List Int} (h : (x :: (w ++ [y])).Nodup) : XY x w y := (xmain _).1 x w y rfl h
theorem xz {x M : Int} {u v : List Int} (h : (x :: (u ++ v)).Nodup) (hM : ∀ z ∈ x :: (u ++ v), z < M) : XZ x u M v := (xmain _).2 x u M v rfl h hM
end
section
noncomputable def blw (u : List Int) (j : Int) : List Int := u.filter fun p => decide (p < j)
theorem mem_blw {u : List Int} {j p : Int} : p ∈ blw u j ↔ p ∈ u ∧ p < j := by unfold blw; rw [List.mem_filter, decide_eq_true_eq]
theorem blw_eq {u : List Int} {j k : Int} (h : ∀ p ∈ u, p < j ↔ p < k) : blw u j = blw u k := List.filter_congr fun p hp => by
  by_cases c : p < j
  · rw [decide_eq_true c, decide_eq_true ((h p hp).mp c)]
  · rw [decide_eq_false c, decide_eq_false fun d => c ((h p hp).mpr d)]
theorem blw_split {u a b : List Int} {j M : Int} (h : blw u j = a ++ M :: b) (hM : ∀ x ∈ a ++ b, x < M) : a ++ b = blw u M := by
  have h1 : blw (blw u j) M = blw u M := by
    unfold blw
    rw [List.filter_filter]
    refine List.filter_congr fun p hp => ?_
    by_cases c : p < M
    · have : M < j := (mem_blw.mp (h ▸ List.mem_append_right a (List.mem_cons_self ..) : M ∈ blw u j)).2
      rw [decide_eq_true c, decide_eq_true (Int.lt_trans c this)]; rfl
    · rw [decide_eq_false c]; rfl
  rw [← h1, h]
  unfold blw
  rw [List.filter_append, List.filter_cons_of_neg (by simp), ← List.filter_append, List.filter_eq_self.mpr fun x hx => decide_eq_true (hM x hx)]
noncomputable def cntL (ln : Int → Nat) (u : List Int) : Nat → Nat := fun i => u.countP fun p => decide (ln p = i)
theorem cntL_cons {ln : Int → Nat} {x : Int} {u : List Int} : cntL ln (x :: u) = inc (cntL ln u) (ln x) := by
  funext i
  show (x :: u).countP _ = _
  rw [List.countP_cons]
  by_cases c : i = ln x
  · subst c; rw [inc_self, decide_eq_true rfl]; rfl
  · rw [inc_ne c, decide_eq_false fun e => c e.symm]; rfl
theorem cntL_mid {ln : Int → Nat} {x : Int} {a b : List Int} : cntL ln (a ++ x :: b) = inc (cntL ln (a ++ b)) (ln x) := by
  rw [← cntL_cons]
  funext i
  exact List.perm_middle.countP_eq _
noncomputable def SS (ln : Int → Nat) (u : List Int) : Prop := ∀ j, S (blw u j) = cntL ln (blw u j)
theorem SS.nil {ln : Int → Nat} : SS ln [] := fun j => rfl
theorem SS.all {ln : Int → Nat} {u : List Int} (h : SS ln u) : S u = cntL ln u := by
  have : ∃ j, blw u j = u := by
    rcases Classical.em (u = []) with rfl | c
    · exact ⟨0, rfl⟩
    · obtain ⟨M, _, h2⟩ := has_max c
      exact ⟨M + 1, List.filter_eq_self.mpr fun x hx => decide_eq_true (Int.lt_add_one_iff.mpr (h2 x hx))⟩
  obtain ⟨j, e⟩ := this
  have := h j
  rwa [e] at this
theorem SS.step {ln : Int → Nat} {x : Int} {u : List Int} (h : SS ln u) (hn : (x :: u).Nodup) (mono : ∀ p q, p < q → ln p ≤ ln q) (hl : ∀ p ∈ u, ln p = ln x → x < p) (hc : ∀ i, i < ln x → cntL ln u (ln x) < cntL ln u i) : SS ln (x :: u) := by
  have full : ∀ j, x < j → ∀ i, i < ln x → cntL ln (blw u j) i = cntL ln u i := fun j hj i hi => by
    show (List.filter _ u).countP _ = _
    rw [List.countP_filter]
    refine List.countP_congr fun p hp => ?_
    rw [Bool.and_eq_true, decide_eq_true_eq, decide_eq_true_eq]
    refine ⟨fun q => q.1, fun q => ⟨q, ?_⟩⟩
    rcases Int.lt_trichotomy p x with w | w | w
    · exact Int.lt_trans w hj
    · rw [w] at q; (first | lia | omega)
    · have := mono x p w; (first | lia | omega)
  have part : ∀ j, cntL ln (blw u j) (ln x) ≤ cntL ln u (ln x) := fun j => List.filter_sublist.countP_le
  have key : ∀ (n : Nat) (j : Int), x < j → (blw u j).length ≤ n → S (x :: blw u j) = inc (cntL ln (blw u j)) (ln x) := fun n => by
    induction n with
    | zero =>
      intro j hj hl0
      have e := List.length_eq_zero_iff.mp (Nat.le_zero.mp hl0)
      obtain ⟨z, e1, hz⟩ := xm (w := blw u j) (M := x) (by rw [e]; exact nofun) (by rw [e]; exact List.nodup_nil)
      rw [e1, h j]
      rw [h j] at hz
      congr 1
      rcases Nat.lt_trichotomy z (ln x) with w | w | w
      · have h1 := hz.zz
        rw [full j hj z w] at h1
        have := hc z w
        (first | lia | omega)
      · exact w
      · have h1 := hz.lt _ w
        rw [e] at h1
        exact absurd h1 (Nat.lt_irrefl _)
    | succ n ih =>
      intro j hj hl0
      have nv : (blw u j).Nodup := (List.nodup_cons.mp hn).2.filter _
      have nxv : (x :: blw u j).Nodup := List.nodup_cons.mpr ⟨fun q => (List.nodup_cons.mp hn).1 (mem_blw.mp q).1, nv⟩
      obtain ⟨a, M, b, e, hM⟩ := split_max (l := x :: blw u j) nofun nxv
      rcases a with _ | ⟨x', a⟩
      · obtain ⟨hx, hb⟩ := List.cons.inj e
        subst hx
        have hlt : ∀ p ∈ blw u j, p < x := by rw [hb]; exact hM
        obtain ⟨z, e1, hz⟩ := xm hlt nv
        rw [e1, h j]
        rw [h j] at hz
        congr 1
        rcases Nat.lt_trichotomy z (ln x) with w | w | w
        · have h1 := hz.zz
          rw [full j hj z w] at h1
          have := hc z w
          (first | lia | omega)
        · exact w
        · have h1 := hz.lt _ w
          obtain ⟨p, hp, q⟩ := List.countP_pos_iff.mp h1
          have := hl p (mem_blw.mp hp).1 (of_decide_eq_true q)
          exact absurd (hlt p hp) (by (first | lia | omega))
      · obtain ⟨hx, hb⟩ := List.cons.inj e
        subst hx
        have hb : blw u j = a ++ M :: b := hb
        have hab : ∀ p ∈ a ++ b, p < M := fun p hp => hM p (List.mem_cons_of_mem _ hp)
        have hxM : x < M := hM x (List.mem_cons_self ..)
        have e0 := blw_split hb hab
        have i1 := ih M hxM (by rw [← e0]; rw [hb] at hl0; simp at hl0 ⊢; (first | lia | omega))
        rw [hb] at nxv
        obtain ⟨k, m, n', z1, z2, z3, Z⟩ := xz (nodup_del (a := x :: a) nxv) hM
        have hf := h M
        rw [← e0] at i1 hf
        rw [hf] at z1 z2 z3 Z
        obtain rfl : k = ln x := inc_inj (z1.symm.trans i1)
        have hm : m = ln M := inc_inj (f := cntL ln (a ++ b)) (by rw [← z2, ← cntL_mid, ← hb]; exact h j)
        subst hm
        rw [hb, z3, cntL_mid]
        by_cases c : ln x = ln M
        · have C := Z.eq c
          have : n' = ln x := Classical.byContradiction fun w => by
            have h1 := Nat.lt_of_le_of_ne C.le w
            have h2 := C.eq
            rw [inc_self, inc_ne (Nat.ne_of_lt h1)] at h2
            have h3 := full M hxM n' h1
            rw [← e0] at h3
            have h4 := part j
            rw [hb, cntL_mid, c, inc_self, ← c] at h4
            have h5 := hc n' h1
            (first | lia | omega)
          rw [this, c]
        · rw [Z.ne c, inc_comm]
  intro j
  by_cases c : x < j
  · have : blw (x :: u) j = x :: blw u j := List.filter_cons_of_pos (decide_eq_true c)
    rw [this, key _ j c (Nat.le_refl _), cntL_cons]
  · have : blw (x :: u) j = blw u j := List.filter_cons_of_neg (by simpa using c)
    rw [this]
    exact h j
end
section
structure Bx (h w : Nat) (f : Nat → Nat) : Prop where
  ant : Ant f
  le : f 0 ≤ w
  z : f h = 0
section
variable {h w a b H : Nat} {f : Nat → Nat}
theorem Bx.all (B : Bx h w f) (i : Nat) : f i ≤ w := Nat.le_trans (B.ant.le (Nat.zero_le i)) B.le
theorem Bx.lt (B : Bx h w f) {i : Nat} (hi : 0 < f i) : i < h := Nat.lt_of_not_le fun q => by
  have := B.ant.le q
  rw [B.z] at this
  (first | lia | omega)
theorem Bx.row (B : Bx h w (inc f a)) : a < h := B.lt (by rw [inc_self]; exact Nat.succ_pos _)
theorem Bx.col (B : Bx h w (inc f a)) : f a < w := by
  have := B.all a
  rwa [inc_self] at this
noncomputable def FF (f : Nat → Nat) (H b : Nat) : Nat → Nat := fun i => min b (f (H - 1 + i)) + (f (H + i) - b)
theorem ff_inc (q : (f a < b ∧ 1 ≤ H ∧ H ≤ a + 1) ∨ (b ≤ f a ∧ H ≤ a ∧ (1 ≤ H ∨ b = 0))) : FF (inc f a) H b = inc (FF f H b) (if f a < b then a + 1 - H else a - H) := by
  funext i
  rcases q with ⟨q1, q2, q3⟩ | ⟨q1, q2, q3⟩
  · rw [if_pos q1]
    by_cases c : i = a + 1 - H
    · subst c
      rw [inc_self]
      unfold FF
      have e : H - 1 + (a + 1 - H) = a := by (first | lia | omega)
      rw [e, inc_self, inc_ne (by (first | lia | omega))]
      (first | lia | omega)
    · rw [inc_ne c]
      unfold FF
      rw [inc_ne (f := f) (by (first | lia | omega) : H - 1 + i ≠ a)]
      by_cases d : H + i = a
      · rw [d, inc_self]; (first | lia | omega)
      · rw [inc_ne d]
  · rw [if_neg (Nat.not_lt.mpr q1)]
    by_cases c : i = a - H
    · subst c
      rw [inc_self]
      unfold FF
      have e : H + (a - H) = a := by (first | lia | omega)
      rw [e, inc_self]
      by_cases d : H - 1 + (a - H) = a
      · rw [d, inc_self]; (first | lia | omega)
      · rw [inc_ne d]; (first | lia | omega)
    · rw [inc_ne c]
      unfold FF
      rw [inc_ne (f := f) (by (first | lia | omega) : H + i ≠ a)]
      by_cases d : H - 1 + i = a
      · rw [d, inc_self]; (first | lia | omega)
      · rw [inc_ne d]
theorem ff_same (q : a + 1 < H ∨ (a + 1 = H ∧ b ≤ f a)) : FF (inc f a) H b = FF f H b := by
  funext i
  unfold FF
  rw [inc_ne (f := f) (by (first | lia | omega) : H + i ≠ a)]
  by_cases d : H - 1 + i = a
  · rw [d, inc_self]; (first | lia | omega)
  · rw [inc_ne d]
theorem ff_skip (hf : Ant f) (q : f (H - 1) ≤ b) : FF f H (b + 1) = FF f H b := by
  funext i
  have h1 := Nat.le_trans (hf.le (Nat.le_add_right (H - 1) i)) q
  have h2 := Nat.le_trans (hf.le (Nat.le_trans (Nat.sub_le H 1) (Nat.le_add_right H i))) q
  show min (b + 1) _ + (_ - (b + 1)) = min b _ + (_ - b)
  rw [Nat.min_eq_right h1, Nat.min_eq_right (Nat.le_succ_of_le h1), Nat.sub_eq_zero_of_le h2, Nat.sub_eq_zero_of_le (Nat.le_succ_of_le h2)]
theorem ff_wrap (hf : ∀ i, f i ≤ w) (q : 1 ≤ H) : FF f H w = FF f (H - 1) 0 := by
  funext i
  have e : H + i - 1 = H - 1 + i := Nat.sub_add_comm q
  show min w (f (H - 1 + i)) + (f (H + i) - w) = min 0 _ + (f (H - 1 + i) - 0)
  rw [Nat.min_eq_right (hf _), Nat.sub_eq_zero_of_le (hf _), Nat.zero_min, Nat.zero_add, Nat.sub_zero]
  rfl
theorem ff_m1 {m : Nat} (hf : Ant f) (e : FF f H (b + 1) = inc (FF f H b) m) (h1 : 1 ≤ H) (h2 : H ≤ a + 1) (q : f a < b) : a + 1 - H ≠ m := fun d => by
  have v := congrFun e m
  rw [inc_self] at v
  unfold FF at v
  have e1 : H - 1 + m = a := by (first | lia | omega)
  have e2 : H + m = a + 1 := by (first | lia | omega)
  rw [e1, e2] at v
  have := hf a
  clear e e1 e2 d h1 h2
  (first | lia | omega)
theorem ff_m2 {m : Nat} (e : FF f H (b + 1) = inc (FF f H b) m) (h1 : 1 ≤ H) (h2 : H ≤ a) (hu : f a < f (a - 1)) (q : f a = b) : a - H = m := Classical.byContradiction fun d => by
  have v := congrFun e (a - H)
  rw [inc_ne d] at v
  unfold FF at v
  have e1 : H - 1 + (a - H) = a - 1 := by (first | lia | omega)
  have e2 : H + (a - H) = a := by (first | lia | omega)
  rw [e1, e2] at v
  clear e e1 e2 d h1 h2
  (first | lia | omega)
theorem ff_m3 {m : Nat} (e : FF f H (b + 1) = inc (FF f H b) m) (h1 : 1 ≤ H) (h2 : H ≤ a) (hu : f a < f (a - 1)) (q : b < f a) : a - H ≠ m := fun d => by
  have v := congrFun e m
  rw [inc_self] at v
  unfold FF at v
  have e1 : H - 1 + m = a - 1 := by (first | lia | omega)
  have e2 : H + m = a := by (first | lia | omega)
  rw [e1, e2, Nat.min_eq_left (Nat.le_trans q (Nat.le_of_lt hu)), Nat.min_eq_left (Nat.le_of_lt (Nat.lt_trans q hu))] at v
  clear e e1 e2 d h1 h2
  (first | lia | omega)
noncomputable def FT (h w : Nat) (f : Nat → Nat) (T : Nat) : Nat → Nat := FF f (h - T / w) (T % w)
theorem ft_at (hb : b < w) (g : Nat) : FT h w f (g * w + b) = FF f (h - g) b := by
  unfold FT
  rw [Nat.mul_comm, Nat.mul_add_div (by (first | lia | omega)), Nat.div_eq_of_lt hb, Nat.mul_add_mod, Nat.mod_eq_of_lt hb, Nat.add_zero]
theorem ft_at' (B : Bx h w f) (hb : b ≤ w) (hw : 0 < w) {g : Nat} (hg : g < h) : FT h w f (g * w + b) = FF f (h - g) b := by
  by_cases c : b = w
  · have : g * w + b = (g + 1) * w + 0 := by rw [c, Nat.succ_mul]; rfl
    rw [this, ft_at hw, c, ff_wrap B.all (by (first | lia | omega))]
    rfl
  · exact ft_at (by (first | lia | omega)) g
theorem ft_end (hw : 0 < w) : FT h w f (h * w) = f := by
  have := ft_at (h := h) (f := f) hw h
  rw [Nat.add_zero] at this
  rw [this, Nat.sub_self]
  funext i
  unfold FF
  rw [Nat.zero_min, Nat.zero_add, Nat.sub_zero, Nat.zero_add]
noncomputable def pc (w i j : Nat) : Int := ((i * w + j : Nat) : Int)
theorem pc_inj {i j i' j' : Nat} (hj : j < w) (hj' : j' < w) (e : pc w i j = pc w i' j') : i = i' ∧ j = j' := by
  have e : i * w + j = i' * w + j' := Int.ofNat.inj e
  have h1 : (i * w + j) / w = i := by rw [Nat.mul_comm, Nat.mul_add_div (by (first | lia | omega)), Nat.div_eq_of_lt hj, Nat.add_zero]
  have h2 : (i' * w + j') / w = i' := by rw [Nat.mul_comm, Nat.mul_add_div (by (first | lia | omega)), Nat.div_eq_of_lt hj', Nat.add_zero]
  have h3 : i = i' := by rw [← h1, ← h2, e]
  subst h3
  exact ⟨rfl, by (first | lia | omega)⟩
theorem pc_lt {i j : Nat} (hi : i < h) (hj : j < w) : i * w + j < h * w := by
  have : (i + 1) * w ≤ h * w := Nat.mul_le_mul_right w hi
  rw [Nat.succ_mul] at this
  (first | lia | omega)
structure MW (h w : Nat) (f : Nat → Nat) (u : List Int) : Prop where
  nd : u.Nodup
  mem : ∀ p, p ∈ u ↔ ∃ i j, i < h ∧ j < f i ∧ p = pc w (h - 1 - i) j
  sh : ∀ T : Nat, T ≤ h * w → S (blw u T) = FT h w f T
theorem MW.nil : MW h w (fun _ => 0) [] := ⟨List.nodup_nil, fun p => ⟨nofun, fun ⟨_, _, _, q, _⟩ => absurd q (Nat.not_lt_zero _)⟩, fun T _ => by
  funext i
  unfold FT FF
  show 0 = _
  rw [Nat.min_zero, Nat.zero_sub]⟩
theorem MW.shape {u : List Int} (M : MW h w f u) (B : Bx h w f) (hw : 0 < w) : S u = f := by
  have h1 := M.sh (h * w) (Nat.le_refl _)
  rw [ft_end hw] at h1
  have : blw u (h * w : Nat) = u := List.filter_eq_self.mpr fun p hp => by
    obtain ⟨i, j, hi, hj, rfl⟩ := (M.mem p).mp hp
    exact decide_eq_true (Int.ofNat_lt.mpr (pc_lt (by (first | lia | omega)) (Nat.lt_of_lt_of_le hj (B.all i))))
  rwa [this] at h1
theorem MW.step {u : List Int} (M : MW h w f u) (B : Bx h w f) (B' : Bx h w (inc f a)) : MW h w (inc f a) (u ++ [pc w (h - 1 - a) (f a)]) := by
  have ha := B'.row
  have hc := B'.col
  have hw : 0 < w := by (first | lia | omega)
  have hy : pc w (h - 1 - a) (f a) ∉ u := fun q => by
    obtain ⟨i, j, hi, hj, e⟩ := (M.mem _).mp q
    obtain ⟨e1, e2⟩ := pc_inj hc (Nat.lt_of_lt_of_le hj (B.all i)) e
    have : i = a := by (first | lia | omega)
    subst this
    (first | lia | omega)
  refine ⟨List.nodup_append.mpr ⟨M.nd, by simp, fun p hp q hq e => hy (by rw [← List.mem_singleton.mp hq, ← e]; exact hp)⟩, fun p => ?_, ?_⟩
  · rw [List.mem_append, M.mem, List.mem_singleton]
    constructor
    · rintro (⟨i, j, hi, hj, rfl⟩ | rfl)
      · refine ⟨i, j, hi, ?_, rfl⟩
        unfold inc
        split <;> (first | lia | omega)
      · exact ⟨a, f a, ha, by rw [inc_self]; exact Nat.lt_succ_self _, rfl⟩
    · rintro ⟨i, j, hi, hj, rfl⟩
      by_cases c : i = a
      · subst c
        rw [inc_self] at hj
        by_cases d : j = f i
        · rw [d]; exact .inr rfl
        · exact .inl ⟨i, j, hi, by (first | lia | omega), rfl⟩
      · rw [inc_ne c] at hj
        exact .inl ⟨i, j, hi, hj, rfl⟩
  · have hup : ∀ i, i < a → f a < f i := fun i hi => B'.ant.up hi
    -- below the new letter
    have low : ∀ g b, g < h → b ≤ w → (g < h - 1 - a ∨ (g = h - 1 - a ∧ b ≤ f a)) → FT h w (inc f a) (g * w + b) = FT h w f (g * w + b) := fun g b hg hb q => by
      rw [ft_at' B hb hw hg, ft_at' B' hb hw hg]
      exact ff_same (by (first | lia | omega))
    -- above it
    have gq : ∀ g b, g < h → b ≤ w → (h - 1 - a < g ∨ (g = h - 1 - a ∧ f a < b)) → FT h w (inc f a) (g * w + b) = inc (FT h w f (g * w + b)) (if f a < b then a + 1 - (h - g) else a - (h - g)) := fun g b hg hb q => by
      rw [ft_at' B hb hw hg, ft_at' B' hb hw hg]
      exact ff_inc (by (first | lia | omega))
    have main : ∀ k, (h - 1 - a) * w + f a + 1 + k ≤ h * w → S (blw u (((h - 1 - a) * w + f a + 1 + k : Nat) : Int) ++ [pc w (h - 1 - a) (f a)]) = FT h w (inc f a) ((h - 1 - a) * w + f a + 1 + k) := fun k => by
      induction k with
      | zero =>
        intro hT
        rw [S_max fun p hp => ?_, M.sh _ hT, show (h - 1 - a) * w + f a + 1 + 0 = (h - 1 - a) * w + (f a + 1) from rfl, gq _ _ (by (first | lia | omega)) (by (first | lia | omega)) (.inr ⟨rfl, Nat.lt_succ_self _⟩), if_pos (Nat.lt_succ_self _)]
        · congr 1; (first | lia | omega)
        · obtain ⟨h1, h2⟩ := mem_blw.mp hp
          have : p ≠ pc w (h - 1 - a) (f a) := fun e => hy (e ▸ h1)
          unfold pc at this ⊢
          (first | lia | omega)
      | succ k ih =>
        intro hT
        have ih := ih (by (first | lia | omega))
        generalize hTT : (h - 1 - a) * w + f a + 1 + k = T at ih
        have eT : (h - 1 - a) * w + f a + 1 + (k + 1) = T + 1 := by (first | lia | omega)
        rw [eT] at hT ⊢
        obtain ⟨g, b, hb, rfl⟩ : ∃ g b, b < w ∧ T = g * w + b := ⟨T / w, T % w, Nat.mod_lt _ hw, by rw [Nat.mul_comm]; exact (Nat.div_add_mod T w).symm⟩
        have hg : g < h := Nat.lt_of_not_le fun q => by
          have := Nat.mul_le_mul_right w q
          (first | lia | omega)
        have above : h - 1 - a < g ∨ (g = h - 1 - a ∧ f a < b) := by
          rcases Nat.lt_trichotomy g (h - 1 - a) with q | q | q
          · have := pc_lt (h := h - 1 - a) q hb
            (first | lia | omega)
          · subst q; exact .inr ⟨rfl, by (first | lia | omega)⟩
          · exact .inl q
        have eS : g * w + b + 1 = g * w + (b + 1) := rfl
        by_cases c : b < f (h - 1 - g)
        · have hM : pc w g b ∈ u := (M.mem _).mpr ⟨h - 1 - g, b, by (first | lia | omega), c, by congr 1; (first | lia | omega)⟩
          have nb : (blw u ((g * w + b + 1 : Nat) : Int)).Nodup := M.nd.filter _
          obtain ⟨α, β, e⟩ := List.append_of_mem (mem_blw.mpr ⟨hM, show pc w g b < _ from Int.ofNat_lt.mpr (Nat.lt_succ_self _)⟩ : pc w g b ∈ blw u ((g * w + b + 1 : Nat) : Int))
          have hαβ : ∀ p ∈ α ++ β, p < pc w g b := fun p hp => by
            have h1 : p ∈ blw u ((g * w + b + 1 : Nat) : Int) := by
              rw [e]
              rcases List.mem_append.mp hp with q | q
              · exact List.mem_append_left _ q
              · exact List.mem_append_right _ (List.mem_cons_of_mem _ q)
            have h2 := (mem_blw.mp h1).2
            have h3 : p ≠ pc w g b := fun q => by
              subst q
              rw [e] at nb
              have p1 := (List.perm_middle (a := pc w g b) (l₁ := α) (l₂ := β)).nodup_iff.mp nb
              exact (List.nodup_cons.mp p1).1 hp
            unfold pc at h3 ⊢
            (first | lia | omega)
          have e0 : α ++ β = blw u ((g * w + b : Nat) : Int) := blw_split e hαβ
          have f0 : S (α ++ β) = FT h w f (g * w + b) := by rw [e0]; exact M.sh _ (by (first | lia | omega))
          have f1 : S (α ++ pc w g b :: β) = FT h w f (g * w + b + 1) := by rw [← e]; exact M.sh _ hT
          obtain ⟨m, em⟩ := S_del hαβ
          have ih' : S (α ++ (β ++ [pc w (h - 1 - a) (f a)])) = inc (S (α ++ β)) (if f a < b then a + 1 - (h - g) else a - (h - g)) := by
            rw [← List.append_assoc, f0, e0, ih]
            exact gq g b hg (by (first | lia | omega)) above
          have hyM : pc w (h - 1 - a) (f a) < pc w g b := by
            have : (h - 1 - a) * w + f a < g * w + b := by (first | lia | omega)
            exact Int.ofNat_lt.mpr this
          obtain ⟨p, R, ep⟩ := yz hαβ hyM em ih'
          rw [e, show (α ++ pc w g b :: β) ++ [pc w (h - 1 - a) (f a)] = α ++ pc w g b :: (β ++ [pc w (h - 1 - a) (f a)]) from by simp, ep]
          rw [eS, gq g (b + 1) hg (by (first | lia | omega)) (by (first | lia | omega))]
          rw [eS] at f1
          rw [← f1, em]
          rw [em, f0, ft_at' B (by (first | lia | omega)) hw hg, ft_at' B (by (first | lia | omega)) hw hg] at f1
          generalize S (α ++ β) = F at *
          have g1 : 1 ≤ h - g := by clear ih hT eT hTT; (first | lia | omega)
          have g2 : h - g ≤ a + 1 := by clear ih hT eT hTT; (first | lia | omega)
          rcases Nat.lt_trichotomy (f a) b with q | q | q
          · rw [if_pos q] at R ⊢
            rw [if_pos (Nat.lt_succ_of_lt q), R.ne (ff_m1 B.ant f1.symm g1 g2 q), inc_comm]
          · have g3 : h - g ≤ a := by clear ih hT eT hTT; (first | lia | omega)
            rw [if_neg (by rw [q]; exact Nat.lt_irrefl _)] at R ⊢
            have := ff_m2 f1.symm g1 g3 (hup (a - 1) (by clear ih hT eT hTT; (first | lia | omega))) q
            rw [if_pos (by rw [q]; exact Nat.lt_succ_self _), R.eq this, this, show a + 1 - (h - g) = m + 1 from by clear ih hT eT hTT; (first | lia | omega)]
          · have g3 : h - g ≤ a := by clear ih hT eT hTT; (first | lia | omega)
            rw [if_neg (Nat.not_lt.mpr (Nat.le_of_lt q))] at R ⊢
            rw [if_neg (Nat.not_lt.mpr q), R.ne (ff_m3 f1.symm g1 g3 (hup (a - 1) (by clear ih hT eT hTT; (first | lia | omega))) q), inc_comm]
        · have e : blw u ((g * w + b + 1 : Nat) : Int) = blw u ((g * w + b : Nat) : Int) := blw_eq fun p hp => by
            have : p ≠ pc w g b := fun q => by
              obtain ⟨i, j, hi, hj, e⟩ := (M.mem p).mp hp
              rw [q] at e
              obtain ⟨e1, e2⟩ := pc_inj hb (Nat.lt_of_lt_of_le hj (B.all i)) e
              have : h - 1 - g = i := by (first | lia | omega)
              rw [this, e2] at c
              exact c hj
            unfold pc at this
            (first | lia | omega)
          rw [e, ih, eS, ft_at' B' (by (first | lia | omega)) hw hg, ft_at' B' (by (first | lia | omega)) hw hg]
          refine (ff_skip B'.ant ?_).symm
          by_cases d : h - g - 1 = a
          · rw [d, inc_self]; (first | lia | omega)
          · rw [inc_ne d]
            have : h - g - 1 = h - 1 - g := by (first | lia | omega)
            rw [this]
            (first | lia | omega)
    intro T hT
    by_cases c : (h - 1 - a) * w + f a < T
    · have e : blw (u ++ [pc w (h - 1 - a) (f a)]) T = blw u T ++ [pc w (h - 1 - a) (f a)] := by
        unfold blw
        have c' : pc w (h - 1 - a) (f a) < T := Int.ofNat_lt.mpr c
        rw [List.filter_append, List.filter_cons_of_pos (by rw [decide_eq_true_eq]; exact c')]
        rfl
      rw [e]
      have := main (T - ((h - 1 - a) * w + f a + 1))
      rw [show (h - 1 - a) * w + f a + 1 + (T - ((h - 1 - a) * w + f a + 1)) = T from by (first | lia | omega)] at this
      exact this hT
    · have e : blw (u ++ [pc w (h - 1 - a) (f a)]) T = blw u T := by
        unfold blw
        rw [List.filter_append, List.filter_cons_of_neg (by rw [decide_eq_true_eq]; exact fun q => c (Int.ofNat_lt.mp q)), List.filter_nil, List.append_nil]
      rw [e, M.sh T hT]
      obtain ⟨g, b, hb, rfl⟩ : ∃ g b, b < w ∧ T = g * w + b := ⟨T / w, T % w, Nat.mod_lt _ hw, by rw [Nat.mul_comm]; exact (Nat.div_add_mod T w).symm⟩
      have q : g < h - 1 - a ∨ (g = h - 1 - a ∧ b ≤ f a) := by
        rcases Nat.lt_trichotomy g (h - 1 - a) with q | q | q
        · exact .inl q
        · subst q; exact .inr ⟨rfl, by (first | lia | omega)⟩
        · have := pc_lt (h := g) q hc
          (first | lia | omega)
      exact (low g b (by (first | lia | omega)) (by (first | lia | omega)) q).symm
end
end
section
noncomputable def cells (w : Nat) : List (List Int) → List Int → List Int
  | _, [] => []
  | P, y :: u => pc w (grow P y) (shp P (grow P y)) :: cells w (ins P y) u
noncomputable abbrev Qc (w : Nat) (u : List Int) : List Int := cells w [] u
theorem cells_snoc {w : Nat} {y : Int} : ∀ {u : List Int} {P : List (List Int)}, cells w P (u ++ [y]) = cells w P u ++ [pc w (grow (u.foldl ins P) y) (shp (u.foldl ins P) (grow (u.foldl ins P) y))]
  | [], P => rfl
  | x :: u, P => by
    show pc w (grow P x) _ :: cells w (ins P x) (u ++ [y]) = _
    rw [cells_snoc]; rfl
theorem len_cells {w : Nat} : ∀ {u : List Int} {P : List (List Int)}, (cells w P u).length = u.length
  | [], _ => rfl
  | x :: u, P => congrArg (· + 1) len_cells
theorem S_mono {u v : List Int} (i : Nat) : S u i ≤ S (u ++ v) i := by
  induction v using snoc_ind with
  | h0 => rw [List.append_nil]; exact Nat.le_refl _
  | h1 v y ih =>
    rw [← List.append_assoc, S_snoc]
    refine Nat.le_trans ih ?_
    unfold inc
    split
    · exact Nat.le_succ _
    · exact Nat.le_refl _
section
variable {h w : Nat}
theorem Bx.sub {f g : Nat → Nat} (B : Bx h w g) (hf : Ant f) (hl : ∀ i, f i ≤ g i) : Bx h w f := ⟨hf, Nat.le_trans (hl 0) B.le, Nat.le_zero.mp (B.z ▸ hl h)⟩
theorem le_inc {f : Nat → Nat} {a : Nat} (i : Nat) : f i ≤ inc f a i := by
  unfold inc
  split
  · exact Nat.le_succ _
  · exact Nat.le_refl _
inductive Rd (h w : Nat) : (Nat → Nat) → Nat → List Int → List Int → Prop
  | nil {D : Nat → Nat} {k : Nat} : Bx h w (inc D k) → Rd h w D k [] [pc w k (D k)]
  | go {D : Nat → Nat} {k m : Nat} {c o : List Int} : k ≠ m → Bx h w (inc D m) → Rd h w (inc D m) k c o → Rd h w D k (pc w m (D m) :: c) (pc w m (D m) :: o)
  | turn {D : Nat → Nat} {k e : Nat} {c o : List Int} : (e = k ∨ (e = k + 1 ∧ D (k + 1) = D k)) → Bx h w (inc D k) → Bx h w (inc (inc D k) e) → Rd h w (inc D k) e c o → Rd h w D k (pc w e (inc D k e) :: c) (pc w k (D k) :: o)
theorem rd_a {x : Int} : ∀ (u2 u1 : List Int) (k : Nat) (c o : List Int), (x :: (u1 ++ u2)).Nodup → Bx h w (S (x :: (u1 ++ u2))) → S (x :: u1) = inc (S u1) k →
    (∀ k', S (x :: (u1 ++ u2)) = inc (S (u1 ++ u2)) k' → Rd h w (S (u1 ++ u2)) k' c o) → Rd h w (S u1) k (cells w (tab (x :: u1)) u2 ++ c) (cells w (tab u1) u2 ++ o)
  | [], u1, k, c, o, hn, B, hk, H => by
    have := H k (by rw [List.append_nil]; exact hk)
    rwa [List.append_nil] at this
  | y :: u2, u1, k, c, o, hn, B, hk, H => by
    have as : u1 ++ y :: u2 = (u1 ++ [y]) ++ u2 := by simp
    rw [as] at hn B
    have n1 : (x :: (u1 ++ [y])).Nodup := hn.sublist (List.Sublist.cons_cons _ (List.sublist_append_left _ _))
    obtain ⟨a, b, e, h1, h2, h3, R⟩ := xy n1
    obtain rfl : a = k := inc_inj (h1.symm.trans hk)
    have eb : grow (tab u1) y = b := inc_inj (f := S u1) (by rw [← h2, S_snoc])
    have ee : grow (tab (x :: u1)) y = e := inc_inj (f := S (x :: u1)) (by rw [h1, ← h3, ← h1]; exact (S_snoc (w := x :: u1)).symm)
    have B1 : Bx h w (S (x :: (u1 ++ [y]))) := B.sub (S_ant n1) fun i => S_mono (u := x :: (u1 ++ [y])) i
    have ih := fun k' q => rd_a u2 (u1 ++ [y]) k' c o hn B q (fun k'' q' => by have := H k'' (by rw [as]; exact q'); rwa [as] at this)
    have t1 : ins (tab (x :: u1)) y = tab (x :: (u1 ++ [y])) := (tab_snoc (w := x :: u1)).symm
    show Rd h w (S u1) a (pc w (grow (tab (x :: u1)) y) (S (x :: u1) (grow (tab (x :: u1)) y)) :: (cells w (ins (tab (x :: u1)) y) u2 ++ c)) (pc w (grow (tab u1) y) (S u1 (grow (tab u1) y)) :: (cells w (ins (tab u1) y) u2 ++ o))
    rw [t1, ← tab_snoc, ee, eb, hk]
    rw [h3] at B1
    by_cases q : a = b
    · subst q
      refine Rd.turn (R.eq rfl) (B1.sub (h2 ▸ S_ant (List.nodup_cons.mp n1).2) fun i => le_inc i) B1 ?_
      have := ih e (by rw [h3, h2])
      rwa [h2] at this
    · obtain rfl := R.ne q
      rw [inc_ne (Ne.symm q)]
      refine Rd.go q (B1.sub (h2 ▸ S_ant (List.nodup_cons.mp n1).2) fun i => by rw [inc_comm]; exact le_inc i) ?_
      have := ih a (by rw [h3, h2, inc_comm])
      rwa [h2] at this
noncomputable def comp (h w : Nat) (g : Nat → Nat) : Nat → Nat := fun i => if i < h then w - g (h - 1 - i) else 0
theorem comp_at {g : Nat → Nat} {i : Nat} (hi : i < h) : comp h w g (h - 1 - i) = w - g i := by
  unfold comp
  rw [if_pos (by (first | lia | omega)), show h - 1 - (h - 1 - i) = i from by (first | lia | omega)]
theorem comp_inc {g : Nat → Nat} {a : Nat} (ha : a < h) (hg : g a < w) : inc (comp h w (inc g a)) (h - 1 - a) = comp h w g := by
  funext i
  by_cases c : i = h - 1 - a
  · rw [c, inc_self, comp_at ha, comp_at ha, inc_self]; (first | lia | omega)
  · rw [inc_ne c]
    unfold comp
    by_cases d : i < h
    · rw [if_pos d, if_pos d, inc_ne (by (first | lia | omega))]
    · rw [if_neg d, if_neg d]
theorem comp_bx {g : Nat → Nat} (B : Bx h w g) : Bx h w (comp h w g) := by
  refine ⟨fun i => ?_, ?_, if_neg (Nat.lt_irrefl _)⟩
  · unfold comp
    by_cases d : i + 1 < h
    · rw [if_pos d, if_pos (by (first | lia | omega))]
      have := B.ant.le (by (first | lia | omega) : h - 1 - (i + 1) ≤ h - 1 - i)
      (first | lia | omega)
    · rw [if_neg d]; exact Nat.zero_le _
  · unfold comp
    split
    · exact Nat.sub_le ..
    · exact Nat.zero_le _
noncomputable def turn (h w : Nat) (p : Int) : Int := h * w - 1 - p
theorem turn_pc {i j : Nat} (hi : i < h) (hj : j < w) : turn h w (pc w i j) = pc w (h - 1 - i) (w - 1 - j) := by
  unfold turn pc
  have h1 : h * w = (h - 1 - i) * w + i * w + w := by
    rw [← Nat.add_mul, ← Nat.succ_mul]; congr 1; (first | lia | omega)
  have h2 : ((h * w : Nat) : Int) = (h : Int) * w := Int.natCast_mul ..
  rw [← h2, h1]
  (first | lia | omega)
noncomputable def tr (h w : Nat) (l : List Int) : List Int := (l.map (turn h w)).reverse
theorem tr_snoc {l : List Int} {p : Int} : tr h w (l ++ [p]) = turn h w p :: tr h w l := by unfold tr; simp
theorem rd_b {x : Int} (v : List Int) : (x :: v).Nodup → Bx h w (S (x :: v)) → ∀ c, S (x :: v) = inc (S v) c → Rd h w (comp h w (S (x :: v))) (h - 1 - c) (tr h w (Qc w v)) (tr h w (Qc w (x :: v))) := by
  induction v using snoc_ind with
  | h0 =>
    intro hn B c hc
    have h1 : S [x] = inc (S []) 0 := S_max (w := []) nofun
    obtain rfl : 0 = c := inc_inj (h1.symm.trans hc)
    rw [hc] at B ⊢
    have h2 : (S []) 0 < w := B.col
    have := Rd.nil (h := h) (w := w) (D := comp h w (inc (S []) 0)) (k := h - 1 - 0) (by rw [comp_inc B.row h2]; exact comp_bx (B.sub (fun i => Nat.le_refl _) fun i => Nat.zero_le _))
    rw [comp_at B.row, inc_self] at this
    have e : tr h w (Qc w [x]) = [pc w (h - 1 - 0) (w - (S [] 0 + 1))] := by
      show [turn h w (pc w 0 0)] = _
      rw [turn_pc B.row (by show 0 < w; exact Nat.lt_of_le_of_lt (Nat.zero_le _) h2)]
      rfl
    rw [e]
    exact this
  | h1 v y ih =>
    intro hn B c hc
    obtain ⟨a, b, e, h1, h2, h3, R⟩ := xy hn
    have n1 : (x :: v).Nodup := hn.sublist (List.Sublist.cons_cons _ (List.sublist_append_left _ _))
    have B1 : Bx h w (S (x :: v)) := B.sub (S_ant n1) fun i => S_mono (u := x :: v) i
    have i1 := ih n1 B1 a h1
    have eb : grow (tab v) y = b := inc_inj (f := S v) (by rw [← h2, S_snoc])
    have ee : grow (tab (x :: v)) y = e := inc_inj (f := S (x :: v)) (by rw [h1, ← h3, ← h1]; exact (S_snoc (w := x :: v)).symm)
    have q1 : Qc w (v ++ [y]) = Qc w v ++ [pc w b (S v b)] := by rw [← eb]; exact cells_snoc
    have q2 : Qc w (x :: (v ++ [y])) = Qc w (x :: v) ++ [pc w e (inc (S v) a e)] := by rw [← h1, ← ee]; exact cells_snoc (u := x :: v)
    rw [q1, q2, tr_snoc, tr_snoc]
    rw [h2] at hc
    rw [h3] at hc B ⊢
    rw [h1] at i1 B1
    have ha := B1.row
    have hac := B1.col
    have he := B.row
    have hec := B.col
    by_cases q : a = b
    · subst q
      obtain rfl : e = c := inc_inj hc
      have s1 : inc (comp h w (inc (inc (S v) a) e)) (h - 1 - e) = comp h w (inc (S v) a) := comp_inc he hec
      have s2 : inc (comp h w (inc (S v) a)) (h - 1 - a) = comp h w (S v) := comp_inc ha hac
      have := Rd.turn (h := h) (w := w) (D := comp h w (inc (inc (S v) a) e)) (k := h - 1 - e) (e := h - 1 - a) ?_ (by rw [s1]; exact comp_bx B1) (by rw [s1, s2]; exact comp_bx (B1.sub (S_ant (List.nodup_cons.mp n1).2) fun i => le_inc i)) (by rw [s1]; exact i1)
      · rw [s1, comp_at ha, comp_at he, inc_self (f := inc (S v) a), inc_self] at this
        rw [turn_pc ha hac, turn_pc he hec, show w - 1 - S v a = w - (S v a + 1) from by (first | lia | omega), show w - 1 - inc (S v) a e = w - (inc (S v) a e + 1) from by (first | lia | omega)]
        exact this
      · rcases R.eq rfl with w1 | ⟨w1, w2⟩
        · rw [w1]; exact .inl rfl
        · have e1 : h - 1 - e + 1 = h - 1 - a := by (first | lia | omega)
          refine .inr ⟨e1.symm, ?_⟩
          rw [e1, comp_at ha, comp_at he, inc_self (f := inc (S v) a), inc_ne (by (first | lia | omega) : a ≠ e), inc_self, inc_ne (f := S v) (by (first | lia | omega) : e ≠ a), w1, w2]
    · obtain rfl := R.ne q
      rw [inc_comm] at hc
      obtain rfl : a = c := inc_inj hc
      rw [inc_ne (Ne.symm q)] at hec ⊢
      have s1 : inc (comp h w (inc (inc (S v) a) e)) (h - 1 - e) = comp h w (inc (S v) a) := comp_inc he (by rw [inc_ne (Ne.symm q)]; exact hec)
      have := Rd.go (h := h) (w := w) (D := comp h w (inc (inc (S v) a) e)) (k := h - 1 - a) (m := h - 1 - e) (by (first | lia | omega)) (by rw [s1]; exact comp_bx B1) (by rw [s1]; exact i1)
      rw [comp_at he, inc_self (f := inc (S v) a), inc_ne (Ne.symm q)] at this
      rw [turn_pc he hec, show w - 1 - S v e = w - (S v e + 1) from by (first | lia | omega)]
      exact this
theorem rd_all {x x' : Int} {u v : List Int} (n1 : (x :: u).Nodup) (n2 : (x' :: v).Nodup) (B : Bx h w (S (x :: u))) (B' : Bx h w (S (x' :: v))) (k1 : S (x :: u) = comp h w (S v)) (k2 : S u = comp h w (S (x' :: v))) :
    Qc w (x :: u) = pc w 0 0 :: cells w (tab [x]) u ∧ Rd h w (fun _ => 0) 0 (cells w (tab [x]) u ++ tr h w (Qc w v)) (Qc w u ++ tr h w (Qc w (x' :: v))) := by
  refine ⟨rfl, rd_a u [] 0 _ _ n1 B (S_max (w := []) nofun) fun k hk => ?_⟩
  have hk : S (x :: u) = inc (S u) k := hk
  have : ∃ c, S (x' :: v) = inc (S v) c := by
    rcases nil_or_snoc v with rfl | ⟨v', y, rfl⟩
    · exact ⟨0, S_max (w := []) nofun⟩
    · exact (xy n2).one
  obtain ⟨c, hc⟩ := this
  have i1 := rd_b v n2 B' c hc
  rw [← k2] at i1
  have : k = h - 1 - c := inc_inj (f := S u) (by
    rw [← hk, k1, k2, hc]
    rw [hc] at B'
    exact (comp_inc B'.row B'.col).symm)
  rw [this]
  exact i1
end
end
section
section
variable {h w : Nat}
inductive Crs (h w : Nat) : List Int → (Nat → Nat) → Prop
  | nil : Crs h w [] (fun _ => 0)
  | snoc {c : List Int} {f : Nat → Nat} {a : Nat} : Crs h w c f → Bx h w (inc f a) → Crs h w (c ++ [pc w a (f a)]) (inc f a)
theorem Crs.bx {c : List Int} {f : Nat → Nat} (C : Crs h w c f) : Bx h w f := by
  cases C with
  | nil => exact ⟨fun _ => Nat.le_refl _, Nat.zero_le _, rfl⟩
  | snoc _ B => exact B
theorem Crs.inv {c : List Int} {p : Int} {g : Nat → Nat} (C : Crs h w (c ++ [p]) g) : ∃ f a, Crs h w c f ∧ Bx h w (inc f a) ∧ p = pc w a (f a) ∧ g = inc f a := by
  generalize e : c ++ [p] = d at C
  cases C with
  | nil => exact absurd e (by simp)
  | @snoc c' f a C B =>
    obtain ⟨rfl, e2⟩ := List.append_inj' e rfl
    exact ⟨f, a, C, B, (List.cons.inj e2).1, rfl⟩
theorem Crs.pre {c1 : List Int} (c2 : List Int) : ∀ {g : Nat → Nat}, Crs h w (c1 ++ c2) g → ∃ f, Crs h w c1 f := by
  induction c2 using snoc_ind with
  | h0 => intro g C; rw [List.append_nil] at C; exact ⟨g, C⟩
  | h1 c2 p ih =>
    intro g C
    rw [← List.append_assoc] at C
    obtain ⟨f, a, C', _⟩ := C.inv
    exact ih C'
noncomputable def mkp (h w : Nat) (p : Int) : Int := (h - 1 - p / w) * w + p % w
theorem pc_div {i j : Nat} (hj : j < w) : pc w i j / (w : Int) = i ∧ pc w i j % (w : Int) = j := by
  unfold pc
  have h1 : (i * w + j) / w = i := by rw [Nat.mul_comm, Nat.mul_add_div (by (first | lia | omega)), Nat.div_eq_of_lt hj, Nat.add_zero]
  have h2 : (i * w + j) % w = j := by rw [Nat.mul_comm, Nat.mul_add_mod, Nat.mod_eq_of_lt hj]
  exact ⟨by rw [← Int.natCast_ediv, h1], by rw [← Int.natCast_emod, h2]⟩
theorem mkp_pc {i j : Nat} (hi : i < h) (hj : j < w) : mkp h w (pc w i j) = pc w (h - 1 - i) j := by
  unfold mkp
  rw [(pc_div hj).1, (pc_div hj).2]
  unfold pc
  rw [show (h : Int) - 1 - (i : Int) = ((h - 1 - i : Nat) : Int) from by (first | lia | omega), ← Int.natCast_mul]
  rfl
theorem Crs.mw {c : List Int} {f : Nat → Nat} (C : Crs h w c f) : MW h w f (c.map (mkp h w)) := by
  induction C with
  | nil => exact MW.nil
  | snoc C B ih =>
    rw [List.map_append, List.map_cons, mkp_pc B.row B.col]
    exact ih.step C.bx B
theorem Crs.first {c : List Int} {f : Nat → Nat} (hw : 0 < w) (C : Crs h w c f) : Qc w (c.map (mkp h w)) = c := by
  induction C with
  | nil => rfl
  | @snoc c f a C B ih =>
    have M := C.mw
    have M' := (Crs.snoc C B).mw
    have e1 := M.shape C.bx hw
    have e2 := M'.shape B hw
    rw [List.map_append, List.map_cons] at e2 ⊢
    have eg : grow (tab (c.map (mkp h w))) (mkp h w (pc w a (f a))) = a := inc_inj (f := S (c.map (mkp h w))) (by rw [← S_snoc, e1]; exact e2)
    show cells w [] (_ ++ [_]) = _
    rw [cells_snoc]
    show cells w [] _ ++ [pc w (grow (tab _) _) (S _ (grow (tab _) _))] = _
    have ih' : cells w [] (c.map (mkp h w)) = c := ih
    rw [eg, ih', e1]
noncomputable def neg (p : Int) : Int := -p
theorem nodup_neg {l : List Int} (h : l.Nodup) : (l.map neg).Nodup := List.Pairwise.map neg (fun x y q e => q (by unfold neg at e; (first | lia | omega))) h
noncomputable def vOfC (h w : Nat) (c : List Int) : List Int := (c.map fun p => - mkp h w p).reverse
theorem vOfC_snoc {c : List Int} {p : Int} : vOfC h w (c ++ [p]) = - mkp h w p :: vOfC h w c := by unfold vOfC; simp
noncomputable def ln1 (w : Nat) (p : Int) : Nat := (p / w).toNat
noncomputable def ln2 (h w : Nat) (p : Int) : Nat := ((p + (h * w - 1 : Nat)) / w).toNat
theorem ln1_pc {i j : Nat} (hj : j < w) : ln1 w (pc w i j) = i := by unfold ln1; rw [(pc_div hj).1]; rfl
theorem ln2_pc {i j : Nat} (hi : i < h) (hj : j < w) : ln2 h w (- pc w (h - 1 - i) j) = i := by
  unfold ln2
  have h1 : h * w = (h - 1 - i) * w + i * w + w := by
    rw [← Nat.add_mul, ← Nat.succ_mul]; congr 1; (first | lia | omega)
  have e : - pc w (h - 1 - i) j + ((h * w - 1 : Nat) : Int) = pc w i (w - 1 - j) := by
    unfold pc
    rw [h1]
    (first | lia | omega)
  rw [e, (pc_div (by (first | lia | omega))).1]
  rfl
theorem ln1_mono {p q : Int} (hpq : p < q) : ln1 w p ≤ ln1 w q := by
  unfold ln1
  rcases Nat.eq_zero_or_pos w with e | e
  · rw [e]; simp
  · have := Int.ediv_le_ediv (c := (w : Int)) (by (first | lia | omega)) (Int.le_of_lt hpq)
    (first | lia | omega)
theorem ln2_mono {p q : Int} (hpq : p < q) : ln2 h w p ≤ ln2 h w q := ln1_mono (by (first | lia | omega))
theorem Crs.behind {c : List Int} {f : Nat → Nat} (C : Crs h w c f) : SS (ln2 h w) (vOfC h w c) ∧ cntL (ln2 h w) (vOfC h w c) = f := by
  induction C with
  | nil => exact ⟨SS.nil, rfl⟩
  | @snoc c f a C B ih =>
    obtain ⟨i1, i2⟩ := ih
    have M' := (Crs.snoc C B).mw
    rw [vOfC_snoc, mkp_pc B.row B.col]
    have hl := ln2_pc B.row B.col
    refine ⟨i1.step ?_ (fun p q => ln2_mono) (fun q hq e => ?_) fun i hi => ?_, by rw [cntL_cons, i2, hl]⟩
    · have := M'.nd
      rw [List.map_append, List.map_cons, mkp_pc B.row B.col] at this
      have n2 : ((vOfC h w (c ++ [pc w a (f a)]))).Nodup := by
        unfold vOfC
        rw [(List.reverse_perm _).nodup_iff, show ((c ++ [pc w a (f a)]).map fun p => - mkp h w p) = ((c ++ [pc w a (f a)]).map (mkp h w)).map neg from by rw [List.map_map]; rfl]
        exact nodup_neg M'.nd
      rwa [vOfC_snoc, mkp_pc B.row B.col] at n2
    · obtain ⟨p, hp, rfl⟩ := List.mem_map.mp (List.mem_reverse.mp hq)
      obtain ⟨i, j, hi, hj, ep⟩ := (C.mw.mem _).mp (List.mem_map_of_mem hp)
      have hjw := Nat.lt_of_lt_of_le hj (C.bx.all i)
      rw [ep] at e ⊢
      rw [hl, ln2_pc hi hjw] at e
      subst e
      unfold pc
      (first | lia | omega)
    · rw [hl] at hi ⊢
      rw [i2]
      exact B.ant.up hi
noncomputable def full (h w : Nat) : Nat → Nat := fun i => if i < h then w else 0
theorem comp_full : comp h w (full h w) = fun _ => 0 := by
  funext i
  unfold comp full
  by_cases d : i < h
  · rw [if_pos d, if_pos (by (first | lia | omega))]; exact Nat.sub_self _
  · rw [if_neg d]
theorem ahead_ss : ∀ (c2 c1 : List Int) (f : Nat → Nat), Crs h w c1 f → (∀ g, Crs h w c1 g → g = f) → Crs h w (c1 ++ c2) (full h w) →
    SS (ln1 w) (c2.map (mkp h w)) ∧ cntL (ln1 w) (c2.map (mkp h w)) = comp h w f ∧ ∀ p ∈ c2, ∃ i j, i < h ∧ j < w ∧ f i ≤ j ∧ p = pc w i j
  | [], c1, f, C, U, H => by
    rw [List.append_nil] at H
    rw [← U _ H, comp_full]
    exact ⟨SS.nil, rfl, nofun⟩
  | p :: c2, c1, f, C, U, H => by
    have as : c1 ++ p :: c2 = (c1 ++ [p]) ++ c2 := by simp
    have H' := H
    rw [as] at H'
    obtain ⟨g', Cg⟩ := H'.pre
    obtain ⟨f', a, C', B, rfl, rfl⟩ := Cg.inv
    obtain rfl := U _ C'
    have U' : ∀ g, Crs h w (c1 ++ [pc w a (f' a)]) g → g = inc f' a := fun g G => by
      obtain ⟨f2, a2, C2, B2, e1, e2⟩ := G.inv
      obtain rfl := U _ C2
      rw [e2, (pc_inj B.col B2.col e1).1]
    obtain ⟨i1, i2, i3⟩ := ahead_ss c2 (c1 ++ [pc w a (f' a)]) (inc f' a) Cg U' H'
    have ha := B.row
    have hc := B.col
    refine ⟨?_, ?_, fun q hq => ?_⟩
    · rw [List.map_cons, mkp_pc ha hc]
      refine i1.step ?_ (fun p q => ln1_mono) (fun q hq e => ?_) fun i hi => ?_
      · have := H.mw.nd
        rw [List.map_append, List.map_cons, mkp_pc ha hc] at this
        exact (List.nodup_append.mp this).2.1
      · obtain ⟨p, hp, rfl⟩ := List.mem_map.mp hq
        obtain ⟨i, j, hi, hj, hij, rfl⟩ := i3 p hp
        rw [mkp_pc hi hj] at e ⊢
        rw [ln1_pc hj, ln1_pc hc] at e
        have : i = a := by (first | lia | omega)
        subst this
        rw [inc_self] at hij
        unfold pc
        (first | lia | omega)
      · rw [ln1_pc hc] at hi ⊢
        rw [i2, comp_at ha, inc_self]
        unfold comp
        rw [if_pos (by (first | lia | omega)), inc_ne (by (first | lia | omega))]
        have := C.bx.ant.le (by (first | lia | omega) : a ≤ h - 1 - i)
        (first | lia | omega)
    · rw [List.map_cons, mkp_pc ha hc, cntL_cons, i2, ln1_pc hc]
      exact comp_inc ha hc
    · rcases List.mem_cons.mp hq with rfl | hq
      · exact ⟨a, f' a, ha, hc, Nat.le_refl _, rfl⟩
      · obtain ⟨i, j, hi, hj, hij, e⟩ := i3 q hq
        exact ⟨i, j, hi, hj, Nat.le_trans (le_inc i) hij, e⟩
theorem Crs.uniq {c : List Int} : ∀ {f g : Nat → Nat}, Crs h w c f → Crs h w c g → g = f := by
  induction c using snoc_ind with
  | h0 =>
    intro f g C G
    have : ∀ {f : Nat → Nat} {c : List Int}, Crs h w c f → c = [] → f = fun _ => 0 := fun C e => by
      cases C with
      | nil => rfl
      | snoc _ _ => exact absurd e (by simp)
    rw [this C rfl, this G rfl]
  | h1 c p ih =>
    intro f g C G
    obtain ⟨f1, a1, C1, B1, e1, rfl⟩ := C.inv
    obtain ⟨f2, a2, C2, B2, e2, rfl⟩ := G.inv
    obtain rfl := ih C1 C2
    rw [(pc_inj B1.col B2.col (e1.symm.trans e2)).1]
noncomputable def CC (h w : Nat) (c1 c2 : List Int) : List Int := Qc w (c2.map (mkp h w)) ++ tr h w (Qc w (vOfC h w c1))
theorem cc_first {c : List Int} (hw : 0 < w) (C : Crs h w c (full h w)) : CC h w [] c = c := by
  show Qc w (c.map (mkp h w)) ++ [] = c
  rw [List.append_nil]
  exact C.first hw
theorem cc_round {c1 c2 : List Int} {p : Int} (C : Crs h w (c1 ++ p :: c2) (full h w)) : ∃ rest, CC h w c1 (p :: c2) = pc w 0 0 :: rest ∧ Rd h w (fun _ => 0) 0 rest (CC h w (c1 ++ [p]) c2) := by
  obtain ⟨f, Cf⟩ := C.pre
  have as : c1 ++ p :: c2 = (c1 ++ [p]) ++ c2 := by simp
  have C' := C
  rw [as] at C'
  obtain ⟨g, Cg⟩ := C'.pre
  obtain ⟨a1, a2, _⟩ := ahead_ss (p :: c2) c1 f Cf (fun g G => Cf.uniq G) C
  obtain ⟨b1, b2, _⟩ := ahead_ss c2 (c1 ++ [p]) g Cg (fun g G => Cg.uniq G) C'
  obtain ⟨d1, d2⟩ := Cf.behind
  obtain ⟨e1, e2⟩ := Cg.behind
  have s1 := a1.all
  have s2 := b1.all
  have s3 := d1.all
  have s4 := e1.all
  rw [a2] at s1
  rw [b2] at s2
  rw [d2] at s3
  rw [e2] at s4
  rw [List.map_cons] at s1
  rw [vOfC_snoc] at s4
  have nd := C.mw.nd
  have n1 : (mkp h w p :: c2.map (mkp h w)).Nodup := by
    rw [List.map_append, List.map_cons] at nd
    exact (List.nodup_append.mp nd).2.1
  have n2 : (- mkp h w p :: vOfC h w c1).Nodup := by
    rw [← vOfC_snoc]
    unfold vOfC
    rw [(List.reverse_perm _).nodup_iff, show ((c1 ++ [p]).map fun p => - mkp h w p) = ((c1 ++ [p]).map (mkp h w)).map neg from by rw [List.map_map]; rfl]
    exact nodup_neg Cg.mw.nd
  have := rd_all (h := h) (w := w) n1 n2 (by rw [s1]; exact comp_bx Cf.bx) (by rw [s4]; exact Cg.bx) (by rw [s1, s3]) (by rw [s2, s4])
  obtain ⟨t1, t2⟩ := this
  have e : CC h w (c1 ++ [p]) c2 = Qc w (c2.map (mkp h w)) ++ tr h w (Qc w (- mkp h w p :: vOfC h w c1)) := by unfold CC; rw [vOfC_snoc]
  have e' : CC h w c1 (p :: c2) = Qc w (mkp h w p :: c2.map (mkp h w)) ++ tr h w (Qc w (vOfC h w c1)) := rfl
  rw [e, e', t1, List.cons_append]
  exact ⟨_, rfl, t2⟩
theorem Crs.len {c : List Int} {f : Nat → Nat} (C : Crs h w c f) : ∀ p ∈ c, 0 ≤ p ∧ p < (h * w : Nat) := by
  induction C with
  | nil => exact nofun
  | snoc C B ih =>
    intro p hp
    rcases List.mem_append.mp hp with q | q
    · exact ih p q
    · rw [List.mem_singleton.mp q]
      exact ⟨Int.natCast_nonneg _, Int.ofNat_lt.mpr (pc_lt B.row B.col)⟩
end
end
section
-- TopologicalSorter.done
noncomputable def D_done8 : FD := { vars := [("self", .loc), ("nodes", .loc), ("n2i", .loc), ("node", .loc), ("nodeinfo", .loc), ("stat", .loc), ("successor", .loc), ("successor_info", .loc)], globs := ["_NODE_OUT", "ValueError", "_NODE_DONE"], calm := true, fn := true, depth := 0 }
noncomputable def pt_done8 : SP :=
  (sSeq (sIf (tOf (pBin opIsN (pUn (opAttrS 1) (pName 0)) pNone)) sDead sNil) (sSeq (sAssign (pUn (opAttrS 0) (pName 0)) (aName 2)) (sFor (iSeq (pName 1)) (aName 3) (sSeq (sIf (tOf (pBin opIsN (pWal (pBm "dict" opGet (pName 2) (lCons (pName 3) lNil)) (aName 4)) pNone)) sDead sNil) (sSeq (sAssign (pUn (opAttrN 1) (pName 4)) (aName 5)) (sSeq (sIf (tOf (pBin opNe (pName 5) (pInt (-1)))) (sIf (tOf (pBin opGe (pName 5) (pInt 0))) (sRaiseV (pName 3)) (sIf (tOf (pBin opEq (pName 5) (pInt (-2)))) sDead sDead)) sNil) (sSeq (sAssign (pInt (-2)) (aAttrN 1 (pName 4))) (sSeq (sFor (iSeq (pUn (opAttrN 2) (pName 4))) (aName 6) (sSeq (sAssign (pBin opItem (pName 2) (pName 6)) (aName 7)) (sSeq (sAugN 1 opSub (pName 7) (pInt 1)) (sIf (tOf (pBin opEq (pUn (opAttrN 1) (pName 7)) (pInt 0))) (sExpr (pBm "list" opAppend (pUn (opAttrS 1) (pName 0)) (lCons (pName 6) lNil))) sNil)))) (sAugS 3 iAdd (pName 0) (pInt 1))))))))))
noncomputable def fp_done8 : FP := fpStar 1 pt_done8
-- _law_field
noncomputable def D_field : FD := { vars := [("high", .loc), ("wide", .loc), ("sorter", .loc), ("place", .loc), ("needs", .loc)], globs := ["TopologicalSorter", "range"], calm := true, fn := true, depth := 3 }
noncomputable def pt_field : SP :=
  (sSeq (sAssign (pNewS fp_sorter lNil) (aName 2)) (sSeq (sFor (iRange (lCons (pBin opSub (pBin opMul (pName 0) (pName 1)) (pInt 1)) (lCons (pUn opNeg (pInt 1)) (lCons (pUn opNeg (pInt 1)) lNil)))) (aName 3) (sSeq (sAssign (pList lNil) (aName 4)) (sSeq (sIf (tOf (pBin opGt (pBin opMod (pName 3) (pName 1)) (pInt 0))) (sExpr (pBm "list" opAppend (pName 4) (lCons (pBin opSub (pName 3) (pInt 1)) lNil))) sNil) (sSeq (sIf (tOf (pBin opGe (pName 3) (pName 1))) (sExpr (pBm "list" opAppend (pName 4) (lCons (pBin opSub (pName 3) (pName 1)) lNil))) sNil) (sExpr (pMeth (pName 2) fp_add (lCons (pName 3) (lStar (pName 4))))))))) (sSeq (sExpr (pMeth (pName 2) fp_prepare lNil)) (sRet (pName 2)))))
noncomputable def fp_field : FP := fpOf 2 pt_field
-- _law_course
noncomputable def D_course : FD := { vars := [("high", .loc), ("wide", .loc), ("picks", .loc), ("sorter", .loc), ("waiting", .loc), ("course", .loc), ("place", .loc)], globs := ["_law_field", "sorted", "len", "list"], calm := true, fn := true, depth := 4 }
noncomputable def pt_course : SP :=
  (sSeq (sAssign (pCall fp_field (lCons (pName 0) (lCons (pName 1) lNil))) (aName 3)) (sSeq (sAssign (pBi opSorted (lCons (pMeth (pName 3) fp_get_ready lNil) lNil)) (aName 4)) (sSeq (sAssign (pList lNil) (aName 5)) (sSeq (sWhile (tOf (pBin opNe (pName 4) (pList lNil))) (sSeq (sAssign (pBm "list" opPop (pName 4) (lCons (pBin opMod (pBin opItem (pName 2) (pBi opLen (lCons (pName 5) lNil))) (pBi opLen (lCons (pName 4) lNil))) lNil)) (aName 6)) (sSeq (sExpr (pMeth (pName 3) fp_done8 (lCons (pName 6) lNil))) (sSeq (sExpr (pBm "list" opAppend (pName 5) (lCons (pName 6) lNil))) (sAssign (pBi opSorted (lCons (pBin opAdd (pName 4) (pBi opList (lCons (pMeth (pName 3) fp_get_ready lNil) lNil))) lNil)) (aName 4))))) sNil) (sRet (pName 5))))))
noncomputable def fp_course : FP := fpOf 3 pt_course
-- _law_refused
noncomputable def D_refused : FD := { vars := [("sorter", .loc), ("places", .loc)], globs := ["ValueError"], calm := true, fn := true, depth := 1 }
noncomputable def pt_refused : SP :=
  (sSeq (sTry (sExpr (pMeth (pName 0) fp_done8 (lStar (pName 1)))) sNil (sRet (pBool true)) .value) (sRet (pBool false)))
noncomputable def fp_refused : FP := fpOf 2 pt_refused
-- _law_round
noncomputable def D_lround : FD := { vars := [("high", .loc), ("wide", .loc), ("course", .loc), ("sorter", .loc), ("held", .loc), ("fresh", .loc), ("place", .loc)], globs := ["_law_field", "_law_refused"], calm := true, fn := true, depth := 4 }
noncomputable def pt_lround : SP :=
  (sSeq (sAssign (pCall fp_field (lCons (pName 0) (lCons (pName 1) lNil))) (aName 3)) (sSeq (sExpr (pMeth (pName 3) fp_get_ready lNil)) (sSeq (sAssign (pBin opItem (pName 2) (pInt 0)) (aName 4)) (sSeq (sAssign (pList lNil) (aName 5)) (sSeq (sFor (iSeq (pSlice (pName 2) (pInt 1) pNone)) (aName 6) (sSeq (sIf (tNot (tOf (pCall fp_refused (lCons (pName 3) (lCons (pList (lCons (pName 6) lNil)) lNil))))) (sExpr (pBm "list" opAppend (pName 5) (lCons (pName 6) lNil))) (sIf (tOf (pCall fp_refused (lCons (pName 3) (lCons (pList (lCons (pName 4) (lCons (pName 6) lNil))) lNil)))) (sSeq (sExpr (pBm "list" opAppend (pName 5) (lCons (pName 4) lNil))) (sAssign (pName 6) (aName 4))) (sRet (pList lNil)))) (sExpr (pMeth (pName 3) fp_get_ready lNil)))) (sSeq (sExpr (pMeth (pName 3) fp_done8 (lCons (pName 4) lNil))) (sRet (pBin opAdd (pName 5) (pList (lCons (pName 4) lNil))))))))))
noncomputable def fp_lround : FP := fpOf 3 pt_lround
-- _law_cells
noncomputable def D_cells : FD := { vars := [("marks", .loc), ("wide", .loc), ("rows", .loc), ("cells", .loc), ("mark", .cell), ("k", .loc), ("greater", .loc), ("out", .loc)], globs := ["range", "len", "min"], calm := true, fn := true, depth := 0 }
noncomputable def D_cells_c1 : FD := { vars := [("k", .loc)], globs := [], calm := true, fn := false, depth := 0 }
noncomputable def D_cells_c2 : FD := { vars := [("x", .loc), ("mark", .cap)], globs := [], calm := true, fn := false, depth := 0 }
noncomputable def D_cells_c3 : FD := { vars := [("x", .loc), ("mark", .cap)], globs := [], calm := true, fn := false, depth := 0 }
noncomputable def pt_cells : SP :=
  (sSeq (sAssign (pComp [none] (iRange (lCons (pBin opAdd (pBi opLen (lCons (pName 0) lNil)) (pInt 1)) lNil)) (aName 0) (cTest none (cEmit (pList lNil)))) (aName 2)) (sSeq (sAssign (pList lNil) (aName 3)) (sSeq (sFor (iSeq (pName 0)) (aName 4) (sSeq (sAssign (pInt 0) (aName 5)) (sSeq (sAssign (pComp [none, some 4] (iSeq (pBin opItem (pName 2) (pInt 0))) (aName 0) (cTest (some (tOf (pBin opGt (pName 0) (pName 1)))) (cEmit (pName 0)))) (aName 6)) (sSeq (sWhile (tOf (pBin opNe (pName 6) (pList lNil))) (sSeq (sAssign (pBi opMin2 (lCons (pName 6) lNil)) (aName 7)) (sSeq (sAssign (pName 4) (aItem (pBin opItem (pName 2) (pName 5)) (pBm "list" opIndex (pBin opItem (pName 2) (pName 5)) (lCons (pName 7) lNil)))) (sSeq (sAssign (pName 7) (aName 4)) (sSeq (sAugName iAdd 5 (pInt 1)) (sAssign (pComp [none, some 4] (iSeq (pBin opItem (pName 2) (pName 5))) (aName 0) (cTest (some (tOf (pBin opGt (pName 0) (pName 1)))) (cEmit (pName 0)))) (aName 6)))))) sNil) (sSeq (sExpr (pBm "list" opAppend (pName 3) (lCons (pBin opAdd (pBin opMul (pName 5) (pName 1)) (pBi opLen (lCons (pBin opItem (pName 2) (pName 5)) lNil))) lNil))) (sExpr (pBm "list" opAppend (pBin opItem (pName 2) (pName 5)) (lCons (pName 4) lNil)))))))) (sRet (pName 3)))))
noncomputable def fp_cells : FP := fpOf 2 pt_cells
-- law
noncomputable def D_law : FD := { vars := [("script", .loc), ("head", .loc), ("high", .cell), ("wide", .cell), ("course", .loc), ("marks", .loc), ("turn", .loc), ("ahead", .loc), ("behind", .loc)], globs := ["_law_course", "range", "_law_round", "_law_cells"], calm := true, fn := true, depth := 5 }
noncomputable def D_law_c1 : FD := { vars := [("place", .loc), ("high", .cap), ("wide", .cap)], globs := [], calm := true, fn := false, depth := 5 }
noncomputable def D_law_c2 : FD := { vars := [("mark", .loc)], globs := [], calm := true, fn := false, depth := 5 }
noncomputable def D_law_c3 : FD := { vars := [("place", .loc), ("high", .cap), ("wide", .cap)], globs := [], calm := true, fn := false, depth := 5 }
noncomputable def pt_law : SP :=
  (sSeq (sAssign (pBin opItem (pBin opAdd (pName 0) (pList (lCons (pInt 0) lNil))) (pInt 0)) (aName 1)) (sSeq (sAssign (pBin opAdd (pInt 2) (pBin opMod (pName 1) (pInt 5))) (aName 2)) (sSeq (sAssign (pBin opAdd (pInt 2) (pBin opMod (pBin opDiv (pName 1) (pInt 5)) (pInt 5))) (aName 3)) (sSeq (sAssign (pCall fp_course (lCons (pName 2) (lCons (pName 3) (lCons (pBin opAdd (pSlice (pName 0) (pInt 1) pNone) (pBin opMul (pList (lCons (pInt 0) lNil)) (pInt 36))) lNil)))) (aName 4)) (sSeq (sAssign (pComp [none, some 2, some 3] (iSeq (pName 4)) (aName 0) (cTest none (cEmit (pBin opAdd (pBin opMul (pBin opSub (pBin opSub (pName 1) (pInt 1)) (pBin opDiv (pName 0) (pName 2))) (pName 2)) (pBin opMod (pName 0) (pName 2)))))) (aName 5)) (sSeq (sFor (iRange (lCons (pBin opAdd (pBin opMul (pName 2) (pName 3)) (pInt 1)) lNil)) (aName 6) (sSeq (sIf (tOf (pBin opGt (pName 6) (pInt 0))) (sAssign (pCall fp_lround (lCons (pName 2) (lCons (pName 3) (lCons (pName 4) lNil)))) (aName 4)) sNil) (sSeq (sAssign (pCall fp_cells (lCons (pSlice (pName 5) (pName 6) pNone) (lCons (pName 3) lNil))) (aName 7)) (sSeq (sAssign (pCall fp_cells (lCons (pRev (pComp [none] (iSeq (pSlice (pName 5) pNone (pName 6))) (aName 0) (cTest none (cEmit (pUn opNeg (pName 0)))))) (lCons (pName 3) lNil))) (aName 8)) (sIf (tOf (pBin opNe (pName 4) (pBin opAdd (pName 7) (pRev (pComp [none, some 2, some 3] (iSeq (pName 8)) (aName 0) (cTest none (cEmit (pBin opSub (pBin opSub (pBin opMul (pName 1) (pName 2)) (pInt 1)) (pName 0))))))))) (sRet (pBool false)) sNil))))) (sRet (pBool true))))))))
noncomputable def fp_law : FP := fpOf 1 pt_law
end
section
noncomputable def noSt : Stmt := .Pass { line := 0, col := 0, endLine := 0, endCol := 0 }
noncomputable def nthS : List Stmt → Nat → Stmt
  | [], _ => noSt
  | a :: _, 0 => a
  | _ :: l, n + 1 => nthS l n
noncomputable def tp (i : Nat) : Stmt := nthS Challenge.pw_dm0130_08.main.body i
noncomputable def clsBody : Stmt → List Stmt
  | .ClassDef _ _ _ b _ _ _ _ _ _ _ => b
  | _ => []
noncomputable def mt (i j : Nat) : Stmt := nthS (clsBody (tp i)) j
noncomputable def fName : Stmt → Str
  | .FunctionDef n _ _ _ _ _ _ _ _ _ => n
  | _ => Str.ofString ""
noncomputable def fArgs : Stmt → Arguments
  | .FunctionDef _ a _ _ _ _ _ _ _ _ => a
  | _ => { posonlyargs := [], args := [], vararg := none, kwonlyargs := [], kw_defaults := [], kwarg := none, defaults := [] }
noncomputable def fBody : Stmt → List Stmt
  | .FunctionDef _ _ b _ _ _ _ _ _ _ => b
  | _ => []
noncomputable def fScope : Stmt → Scope
  | .FunctionDef _ _ _ _ _ _ s _ _ _ => s
  | _ => { kind := ScopeKind.function, names := [], isGenerator := false, isCoroutine := false }
noncomputable def k3 (P : Params) : Nat × Obj := (3, { cls := Value.type "dict", data := Data.dict #[{ hash := PyData.keyHash P (Str.ofString "__name__"), key := Value.str (Str.ofString "__name__") 165, val := Value.str (Str.ofString "law_dm0130_08") 376 }, { hash := PyData.keyHash P (Str.ofString "__doc__"), key := Value.str (Str.ofString "__doc__") 166, val := Value.none }, { hash := PyData.keyHash P (Str.ofString "__package__"), key := Value.str (Str.ofString "__package__") 167, val := Value.none }, { hash := PyData.keyHash P (Str.ofString "__loader__"), key := Value.str (Str.ofString "__loader__") 168, val := Value.builtin "__main__.__loader__#opaque" }, { hash := PyData.keyHash P (Str.ofString "__spec__"), key := Value.str (Str.ofString "__spec__") 169, val := Value.none }, { hash := PyData.keyHash P (Str.ofString "__annotations__"), key := Value.str (Str.ofString "__annotations__") 170, val := Value.ref 6 }, { hash := PyData.keyHash P (Str.ofString "__builtins__"), key := Value.str (Str.ofString "__builtins__") 171, val := Value.ref 4 }, { hash := PyData.keyHash P (Str.ofString "__file__"), key := Value.str (Str.ofString "__file__") 173, val := Value.str (Str.ofString "/claim/cut.py") 172 }, { hash := PyData.keyHash P (Str.ofString "__cached__"), key := Value.str (Str.ofString "__cached__") 174, val := Value.none }, { hash := PyData.keyHash P (Str.ofString "_wall"), key := Value.str (Str.ofString "_wall") 193, val := Value.ref 21 }, { hash := PyData.keyHash P (Str.ofString "_NODE_OUT"), key := Value.str (Str.ofString "_NODE_OUT") 198, val := Value.int (-1) 197 }, { hash := PyData.keyHash P (Str.ofString "_NODE_DONE"), key := Value.str (Str.ofString "_NODE_DONE") 201, val := Value.int (-2) 200 }, { hash := PyData.keyHash P (Str.ofString "_NodeInfo"), key := Value.str (Str.ofString "_NodeInfo") 238, val := Value.ref 40 }, { hash := PyData.keyHash P (Str.ofString "CycleError"), key := Value.str (Str.ofString "CycleError") 256, val := Value.ref 55 }, { hash := PyData.keyHash P (Str.ofString "TopologicalSorter"), key := Value.str (Str.ofString "TopologicalSorter") 375, val := Value.ref 137 }, { hash := PyData.keyHash P (Str.ofString "_law_field"), key := Value.str (Str.ofString "_law_field") 388, val := Value.ref 148 }, { hash := PyData.keyHash P (Str.ofString "_law_course"), key := Value.str (Str.ofString "_law_course") 401, val := Value.ref 155 }, { hash := PyData.keyHash P (Str.ofString "_law_refused"), key := Value.str (Str.ofString "_law_refused") 409, val := Value.ref 162 }, { hash := PyData.keyHash P (Str.ofString "_law_round"), key := Value.str (Str.ofString "_law_round") 422, val := Value.ref 169 }, { hash := PyData.keyHash P (Str.ofString "_law_cells"), key := Value.str (Str.ofString "_law_cells") 428, val := Value.ref 174 }, { hash := PyData.keyHash P (Str.ofString "law"), key := Value.str (Str.ofString "law") 434, val := Value.ref 179 }] 21 })
noncomputable def k17 (P : Params) : Nat × Obj := (17, { cls := Value.type "tuple", data := Data.seq #[Value.str (Str.ofString "k") 190] })
noncomputable def k20 (P : Params) : Nat × Obj := (20, { cls := Value.type "code", data := Data.fields #[Value.str (Str.ofString "_wall") 187, Value.str (Str.ofString "_wall") 188, Value.str (Str.ofString "/claim/cut.py") 189, Value.int 1 0, Value.int 1 0, Value.int 0 0, Value.int 0 0, Value.int 3 0, Value.ref 15, Value.bool true, Value.int 181 0, Value.ref 16, Value.none, Value.ref 17, Value.ref 18, Value.ref 19, Value.int 191 0, Value.int 1 0, Value.str (Str.ofString "/claim/cut.py") 192] })
noncomputable def k21 (P : Params) : Nat × Obj := (21, { cls := Value.type "function", data := Data.func { name := fName (tp 0), qualname := Str.ofString "_wall", params := fArgs (tp 0), body := FuncBody.stmts (fBody (tp 0)), scope := fScope (tp 0), globals := 3, closure := [], defaults := Value.none, kwdefaults := Value.none, pyModule := Value.str (Str.ofString "__main__") 164, code := Value.ref 20 } })
noncomputable def k29 (P : Params) : Nat × Obj := (29, { cls := Value.type "tuple", data := Data.seq #[Value.str (Str.ofString "node") 214, Value.str (Str.ofString "npredecessors") 215, Value.str (Str.ofString "successors") 216] })
noncomputable def k32 (P : Params) : Nat × Obj := (32, { cls := Value.type "tuple", data := Data.seq #[Value.str (Str.ofString "self") 221, Value.str (Str.ofString "node") 222] })
noncomputable def k35 (P : Params) : Nat × Obj := (35, { cls := Value.type "code", data := Data.fields #[Value.str (Str.ofString "__init__") 218, Value.str (Str.ofString "_NodeInfo.__init__") 219, Value.str (Str.ofString "/claim/cut.py") 220, Value.int 10 0, Value.int 2 0, Value.int 0 0, Value.int 0 0, Value.int 3 0, Value.ref 30, Value.bool true, Value.int 181 0, Value.ref 31, Value.none, Value.ref 32, Value.ref 33, Value.ref 34, Value.int 223 0, Value.int 10 0, Value.str (Str.ofString "/claim/cut.py") 224] })
noncomputable def k36 (P : Params) : Nat × Obj := (36, { cls := Value.type "function", data := Data.func { name := fName (mt 4 1), qualname := Str.ofString "_NodeInfo.__init__", params := fArgs (mt 4 1), body := FuncBody.stmts (fBody (mt 4 1)), scope := fScope (mt 4 1), globals := 3, closure := [], defaults := Value.none, kwdefaults := Value.none, pyModule := Value.str (Str.ofString "cpy313.graphlib") 194, code := Value.ref 35 } })
noncomputable def k37 (P : Params) : Nat × Obj := (37, { cls := Value.type "tuple", data := Data.seq #[Value.str (Str.ofString "node") 226, Value.str (Str.ofString "npredecessors") 227, Value.str (Str.ofString "successors") 228] })
noncomputable def k39 (P : Params) : Nat × Obj := (39, { cls := Value.type "dict", data := Data.dict #[{ hash := PyData.keyHash P (Str.ofString "__module__"), key := Value.str (Str.ofString "__module__") 209, val := Value.str (Str.ofString "cpy313.graphlib") 194 }, { hash := PyData.keyHash P (Str.ofString "__firstlineno__"), key := Value.str (Str.ofString "__firstlineno__") 213, val := Value.int 7 212 }, { hash := PyData.keyHash P (Str.ofString "__slots__"), key := Value.str (Str.ofString "__slots__") 217, val := Value.ref 29 }, { hash := PyData.keyHash P (Str.ofString "__init__"), key := Value.str (Str.ofString "__init__") 225, val := Value.ref 36 }, { hash := PyData.keyHash P (Str.ofString "__static_attributes__"), key := Value.str (Str.ofString "__static_attributes__") 229, val := Value.ref 37 }, { hash := PyData.keyHash P (Str.ofString "node"), key := Value.str (Str.ofString "node") 231, val := Value.ref 41 }, { hash := PyData.keyHash P (Str.ofString "npredecessors"), key := Value.str (Str.ofString "npredecessors") 233, val := Value.ref 42 }, { hash := PyData.keyHash P (Str.ofString "successors"), key := Value.str (Str.ofString "successors") 235, val := Value.ref 43 }, { hash := PyData.keyHash P (Str.ofString "__doc__"), key := Value.str (Str.ofString "__doc__") 236, val := Value.none }] 5 })
noncomputable def k40 (P : Params) : Nat × Obj := (40, { cls := Value.type "type", data := Data.cls { name := Str.ofString "_NodeInfo", bases := [Value.type "object"], mro := [Value.ref 40, Value.type "object"], ns := 39, qualname := Str.ofString "_NodeInfo", hasDict := false, slotNames := [Str.ofString "node", Str.ofString "npredecessors", Str.ofString "successors"] }, slots := #[none, none, some (Value.str (Str.ofString "_NodeInfo") 202), some (Value.str (Str.ofString "_NodeInfo") 210), some (Value.builtin "object.__new__"), some (Value.bool false)] })
noncomputable def k41 (P : Params) : Nat × Obj := (41, { cls := Value.type "member_descriptor", data := Data.fields #[Value.str (Str.ofString "node") 230, Value.ref 40, Value.builtin "proto.slot", Value.builtin "proto.slot#set", Value.int 2 0] })
noncomputable def k42 (P : Params) : Nat × Obj := (42, { cls := Value.type "member_descriptor", data := Data.fields #[Value.str (Str.ofString "npredecessors") 232, Value.ref 40, Value.builtin "proto.slot", Value.builtin "proto.slot#set", Value.int 1 0] })
noncomputable def k43 (P : Params) : Nat × Obj := (43, { cls := Value.type "member_descriptor", data := Data.fields #[Value.str (Str.ofString "successors") 234, Value.ref 40, Value.builtin "proto.slot", Value.builtin "proto.slot#set", Value.int 0 0] })
noncomputable def k46 (P : Params) : Nat × Obj := (46, { cls := Value.type "tuple", data := Data.seq #[Value.type "ValueError"] })
noncomputable def k54 (P : Params) : Nat × Obj := (54, { cls := Value.type "dict", data := Data.dict #[{ hash := PyData.keyHash P (Str.ofString "__module__"), key := Value.str (Str.ofString "__module__") 246, val := Value.str (Str.ofString "cpy313.graphlib") 194 }, { hash := PyData.keyHash P (Str.ofString "__firstlineno__"), key := Value.str (Str.ofString "__firstlineno__") 250, val := Value.int 14 249 }, { hash := PyData.keyHash P (Str.ofString "__static_attributes__"), key := Value.str (Str.ofString "__static_attributes__") 251, val := Value.ref 53 }, { hash := PyData.keyHash P (Str.ofString "__weakref__"), key := Value.str (Str.ofString "__weakref__") 253, val := Value.ref 56 }, { hash := PyData.keyHash P (Str.ofString "__doc__"), key := Value.str (Str.ofString "__doc__") 254, val := Value.none }] 3 })
noncomputable def k55 (P : Params) : Nat × Obj := (55, { cls := Value.type "type", data := Data.cls { name := Str.ofString "CycleError", bases := [Value.type "ValueError"], mro := [Value.ref 55, Value.type "ValueError", Value.type "Exception", Value.type "BaseException", Value.type "object"], ns := 54, qualname := Str.ofString "CycleError" }, slots := #[some (Value.ref 46), none, some (Value.str (Str.ofString "CycleError") 239), some (Value.str (Str.ofString "CycleError") 247), some (Value.builtin "ValueError.__new__"), some (Value.bool true)] })
noncomputable def k56 (P : Params) : Nat × Obj := (56, { cls := Value.type "getset_descriptor", data := Data.fields #[Value.str (Str.ofString "__weakref__") 252, Value.ref 55, Value.builtin "ExceptionGroup.__weakref__", Value.none] })
noncomputable def k66 (P : Params) : Nat × Obj := (66, { cls := Value.type "tuple", data := Data.seq #[Value.none] })
noncomputable def k69 (P : Params) : Nat × Obj := (69, { cls := Value.type "tuple", data := Data.seq #[Value.str (Str.ofString "self") 272, Value.str (Str.ofString "graph") 273, Value.str (Str.ofString "node") 274, Value.str (Str.ofString "predecessors") 275] })
noncomputable def k72 (P : Params) : Nat × Obj := (72, { cls := Value.type "code", data := Data.fields #[Value.str (Str.ofString "__init__") 269, Value.str (Str.ofString "TopologicalSorter.__init__") 270, Value.str (Str.ofString "/claim/cut.py") 271, Value.int 18 0, Value.int 2 0, Value.int 0 0, Value.int 0 0, Value.int 3 0, Value.ref 67, Value.bool true, Value.int 181 0, Value.ref 68, Value.none, Value.ref 69, Value.ref 70, Value.ref 71, Value.int 276 0, Value.int 18 0, Value.str (Str.ofString "/claim/cut.py") 277] })
noncomputable def k73 (P : Params) : Nat × Obj := (73, { cls := Value.type "function", data := Data.func { name := fName (mt 6 0), qualname := Str.ofString "TopologicalSorter.__init__", params := fArgs (mt 6 0), body := FuncBody.stmts (fBody (mt 6 0)), scope := fScope (mt 6 0), globals := 3, closure := [], defaults := Value.ref 66, kwdefaults := Value.none, pyModule := Value.str (Str.ofString "cpy313.graphlib") 194, code := Value.ref 72 } })
noncomputable def k76 (P : Params) : Nat × Obj := (76, { cls := Value.type "tuple", data := Data.seq #[Value.str (Str.ofString "self") 282, Value.str (Str.ofString "node") 283, Value.str (Str.ofString "result") 284] })
noncomputable def k79 (P : Params) : Nat × Obj := (79, { cls := Value.type "code", data := Data.fields #[Value.str (Str.ofString "_get_nodeinfo") 279, Value.str (Str.ofString "TopologicalSorter._get_nodeinfo") 280, Value.str (Str.ofString "/claim/cut.py") 281, Value.int 27 0, Value.int 2 0, Value.int 0 0, Value.int 0 0, Value.int 3 0, Value.ref 74, Value.bool true, Value.int 181 0, Value.ref 75, Value.none, Value.ref 76, Value.ref 77, Value.ref 78, Value.int 285 0, Value.int 27 0, Value.str (Str.ofString "/claim/cut.py") 286] })
noncomputable def k80 (P : Params) : Nat × Obj := (80, { cls := Value.type "function", data := Data.func { name := fName (mt 6 1), qualname := Str.ofString "TopologicalSorter._get_nodeinfo", params := fArgs (mt 6 1), body := FuncBody.stmts (fBody (mt 6 1)), scope := fScope (mt 6 1), globals := 3, closure := [], defaults := Value.none, kwdefaults := Value.none, pyModule := Value.str (Str.ofString "cpy313.graphlib") 194, code := Value.ref 79 } })
noncomputable def k83 (P : Params) : Nat × Obj := (83, { cls := Value.type "tuple", data := Data.seq #[Value.str (Str.ofString "self") 291, Value.str (Str.ofString "node") 292, Value.str (Str.ofString "predecessors") 293, Value.str (Str.ofString "nodeinfo") 294, Value.str (Str.ofString "pred") 295, Value.str (Str.ofString "pred_info") 296] })
noncomputable def k86 (P : Params) : Nat × Obj := (86, { cls := Value.type "code", data := Data.fields #[Value.str (Str.ofString "add") 288, Value.str (Str.ofString "TopologicalSorter.add") 289, Value.str (Str.ofString "/claim/cut.py") 290, Value.int 32 0, Value.int 2 0, Value.int 0 0, Value.int 0 0, Value.int 7 0, Value.ref 81, Value.bool true, Value.int 181 0, Value.ref 82, Value.none, Value.ref 83, Value.ref 84, Value.ref 85, Value.int 297 0, Value.int 32 0, Value.str (Str.ofString "/claim/cut.py") 298] })
noncomputable def k87 (P : Params) : Nat × Obj := (87, { cls := Value.type "function", data := Data.func { name := fName (mt 6 2), qualname := Str.ofString "TopologicalSorter.add", params := fArgs (mt 6 2), body := FuncBody.stmts (fBody (mt 6 2)), scope := fScope (mt 6 2), globals := 3, closure := [], defaults := Value.none, kwdefaults := Value.none, pyModule := Value.str (Str.ofString "cpy313.graphlib") 194, code := Value.ref 86 } })
noncomputable def k91 (P : Params) : Nat × Obj := (91, { cls := Value.type "code", data := Data.fields #[Value.str (Str.ofString "prepare") 300, Value.str (Str.ofString "TopologicalSorter.prepare") 301, Value.str (Str.ofString "/claim/cut.py") 302, Value.int 41 0, Value.int 1 0, Value.int 0 0, Value.int 0 0, Value.int 3 0, Value.ref 88, Value.bool true, Value.int 181 0, Value.ref 89, Value.none, Value.none, Value.none, Value.ref 90, Value.int 303 0, Value.int 41 0, Value.str (Str.ofString "/claim/cut.py") 304] })
noncomputable def k92 (P : Params) : Nat × Obj := (92, { cls := Value.type "function", data := Data.func { name := fName (mt 6 3), qualname := Str.ofString "TopologicalSorter.prepare", params := fArgs (mt 6 3), body := FuncBody.stmts (fBody (mt 6 3)), scope := fScope (mt 6 3), globals := 3, closure := [], defaults := Value.none, kwdefaults := Value.none, pyModule := Value.str (Str.ofString "cpy313.graphlib") 194, code := Value.ref 91 } })
noncomputable def k95 (P : Params) : Nat × Obj := (95, { cls := Value.type "tuple", data := Data.seq #[Value.str (Str.ofString "self") 309, Value.str (Str.ofString "result") 310, Value.str (Str.ofString "n2i") 311, Value.str (Str.ofString "node") 312] })
noncomputable def k98 (P : Params) : Nat × Obj := (98, { cls := Value.type "code", data := Data.fields #[Value.str (Str.ofString "get_ready") 306, Value.str (Str.ofString "TopologicalSorter.get_ready") 307, Value.str (Str.ofString "/claim/cut.py") 308, Value.int 49 0, Value.int 1 0, Value.int 0 0, Value.int 0 0, Value.int 3 0, Value.ref 93, Value.bool true, Value.int 181 0, Value.ref 94, Value.none, Value.ref 95, Value.ref 96, Value.ref 97, Value.int 313 0, Value.int 49 0, Value.str (Str.ofString "/claim/cut.py") 314] })
noncomputable def k99 (P : Params) : Nat × Obj := (99, { cls := Value.type "function", data := Data.func { name := fName (mt 6 4), qualname := Str.ofString "TopologicalSorter.get_ready", params := fArgs (mt 6 4), body := FuncBody.stmts (fBody (mt 6 4)), scope := fScope (mt 6 4), globals := 3, closure := [], defaults := Value.none, kwdefaults := Value.none, pyModule := Value.str (Str.ofString "cpy313.graphlib") 194, code := Value.ref 98 } })
noncomputable def k102 (P : Params) : Nat × Obj := (102, { cls := Value.type "tuple", data := Data.seq #[Value.str (Str.ofString "self") 319] })
noncomputable def k105 (P : Params) : Nat × Obj := (105, { cls := Value.type "code", data := Data.fields #[Value.str (Str.ofString "is_active") 316, Value.str (Str.ofString "TopologicalSorter.is_active") 317, Value.str (Str.ofString "/claim/cut.py") 318, Value.int 60 0, Value.int 1 0, Value.int 0 0, Value.int 0 0, Value.int 3 0, Value.ref 100, Value.bool true, Value.int 181 0, Value.ref 101, Value.none, Value.ref 102, Value.ref 103, Value.ref 104, Value.int 320 0, Value.int 60 0, Value.str (Str.ofString "/claim/cut.py") 321] })
noncomputable def k106 (P : Params) : Nat × Obj := (106, { cls := Value.type "function", data := Data.func { name := fName (mt 6 5), qualname := Str.ofString "TopologicalSorter.is_active", params := fArgs (mt 6 5), body := FuncBody.stmts (fBody (mt 6 5)), scope := fScope (mt 6 5), globals := 3, closure := [], defaults := Value.none, kwdefaults := Value.none, pyModule := Value.str (Str.ofString "cpy313.graphlib") 194, code := Value.ref 105 } })
noncomputable def k109 (P : Params) : Nat × Obj := (109, { cls := Value.type "tuple", data := Data.seq #[Value.str (Str.ofString "self") 326] })
noncomputable def k112 (P : Params) : Nat × Obj := (112, { cls := Value.type "code", data := Data.fields #[Value.str (Str.ofString "__bool__") 323, Value.str (Str.ofString "TopologicalSorter.__bool__") 324, Value.str (Str.ofString "/claim/cut.py") 325, Value.int 65 0, Value.int 1 0, Value.int 0 0, Value.int 0 0, Value.int 3 0, Value.ref 107, Value.bool true, Value.int 181 0, Value.ref 108, Value.none, Value.ref 109, Value.ref 110, Value.ref 111, Value.int 327 0, Value.int 65 0, Value.str (Str.ofString "/claim/cut.py") 328] })
noncomputable def k113 (P : Params) : Nat × Obj := (113, { cls := Value.type "function", data := Data.func { name := fName (mt 6 6), qualname := Str.ofString "TopologicalSorter.__bool__", params := fArgs (mt 6 6), body := FuncBody.stmts (fBody (mt 6 6)), scope := fScope (mt 6 6), globals := 3, closure := [], defaults := Value.none, kwdefaults := Value.none, pyModule := Value.str (Str.ofString "cpy313.graphlib") 194, code := Value.ref 112 } })
noncomputable def k116 (P : Params) : Nat × Obj := (116, { cls := Value.type "tuple", data := Data.seq #[Value.str (Str.ofString "self") 333, Value.str (Str.ofString "nodes") 334, Value.str (Str.ofString "n2i") 335, Value.str (Str.ofString "node") 336, Value.str (Str.ofString "nodeinfo") 337, Value.str (Str.ofString "stat") 338, Value.str (Str.ofString "successor") 339, Value.str (Str.ofString "successor_info") 340] })
noncomputable def k119 (P : Params) : Nat × Obj := (119, { cls := Value.type "code", data := Data.fields #[Value.str (Str.ofString "done") 330, Value.str (Str.ofString "TopologicalSorter.done") 331, Value.str (Str.ofString "/claim/cut.py") 332, Value.int 68 0, Value.int 1 0, Value.int 0 0, Value.int 0 0, Value.int 7 0, Value.ref 114, Value.bool true, Value.int 181 0, Value.ref 115, Value.none, Value.ref 116, Value.ref 117, Value.ref 118, Value.int 341 0, Value.int 68 0, Value.str (Str.ofString "/claim/cut.py") 342] })
noncomputable def k120 (P : Params) : Nat × Obj := (120, { cls := Value.type "function", data := Data.func { name := fName (mt 6 7), qualname := Str.ofString "TopologicalSorter.done", params := fArgs (mt 6 7), body := FuncBody.stmts (fBody (mt 6 7)), scope := fScope (mt 6 7), globals := 3, closure := [], defaults := Value.none, kwdefaults := Value.none, pyModule := Value.str (Str.ofString "cpy313.graphlib") 194, code := Value.ref 119 } })
noncomputable def k123 (P : Params) : Nat × Obj := (123, { cls := Value.type "tuple", data := Data.seq #[Value.str (Str.ofString "self") 347, Value.str (Str.ofString "n2i") 348, Value.str (Str.ofString "stack") 349, Value.str (Str.ofString "itstack") 350, Value.str (Str.ofString "seen") 351, Value.str (Str.ofString "node2stacki") 352, Value.str (Str.ofString "node") 353] })
noncomputable def k126 (P : Params) : Nat × Obj := (126, { cls := Value.type "code", data := Data.fields #[Value.str (Str.ofString "_find_cycle") 344, Value.str (Str.ofString "TopologicalSorter._find_cycle") 345, Value.str (Str.ofString "/claim/cut.py") 346, Value.int 91 0, Value.int 1 0, Value.int 0 0, Value.int 0 0, Value.int 3 0, Value.ref 121, Value.bool true, Value.int 181 0, Value.ref 122, Value.none, Value.ref 123, Value.ref 124, Value.ref 125, Value.int 354 0, Value.int 91 0, Value.str (Str.ofString "/claim/cut.py") 355] })
noncomputable def k127 (P : Params) : Nat × Obj := (127, { cls := Value.type "function", data := Data.func { name := fName (mt 6 8), qualname := Str.ofString "TopologicalSorter._find_cycle", params := fArgs (mt 6 8), body := FuncBody.stmts (fBody (mt 6 8)), scope := fScope (mt 6 8), globals := 3, closure := [], defaults := Value.none, kwdefaults := Value.none, pyModule := Value.str (Str.ofString "cpy313.graphlib") 194, code := Value.ref 126 } })
noncomputable def k130 (P : Params) : Nat × Obj := (130, { cls := Value.type "tuple", data := Data.seq #[Value.str (Str.ofString "self") 360] })
noncomputable def k133 (P : Params) : Nat × Obj := (133, { cls := Value.type "code", data := Data.fields #[Value.str (Str.ofString "static_order") 357, Value.str (Str.ofString "TopologicalSorter.static_order") 358, Value.str (Str.ofString "/claim/cut.py") 359, Value.int 120 0, Value.int 1 0, Value.int 0 0, Value.int 0 0, Value.int 3 0, Value.ref 128, Value.bool true, Value.int 181 0, Value.ref 129, Value.none, Value.ref 130, Value.ref 131, Value.ref 132, Value.int 361 0, Value.int 120 0, Value.str (Str.ofString "/claim/cut.py") 362] })
noncomputable def k134 (P : Params) : Nat × Obj := (134, { cls := Value.type "function", data := Data.func { name := fName (mt 6 9), qualname := Str.ofString "TopologicalSorter.static_order", params := fArgs (mt 6 9), body := FuncBody.stmts (fBody (mt 6 9)), scope := fScope (mt 6 9), globals := 3, closure := [], defaults := Value.none, kwdefaults := Value.none, pyModule := Value.str (Str.ofString "cpy313.graphlib") 194, code := Value.ref 133 } })
noncomputable def k135 (P : Params) : Nat × Obj := (135, { cls := Value.type "tuple", data := Data.seq #[Value.str (Str.ofString "_nfinished") 364, Value.str (Str.ofString "_node2info") 365, Value.str (Str.ofString "_npassedout") 366, Value.str (Str.ofString "_ready_nodes") 367] })
noncomputable def k136 (P : Params) : Nat × Obj := (136, { cls := Value.type "dict", data := Data.dict #[{ hash := PyData.keyHash P (Str.ofString "__module__"), key := Value.str (Str.ofString "__module__") 264, val := Value.str (Str.ofString "cpy313.graphlib") 194 }, { hash := PyData.keyHash P (Str.ofString "__firstlineno__"), key := Value.str (Str.ofString "__firstlineno__") 268, val := Value.int 16 267 }, { hash := PyData.keyHash P (Str.ofString "__init__"), key := Value.str (Str.ofString "__init__") 278, val := Value.ref 73 }, { hash := PyData.keyHash P (Str.ofString "_get_nodeinfo"), key := Value.str (Str.ofString "_get_nodeinfo") 287, val := Value.ref 80 }, { hash := PyData.keyHash P (Str.ofString "add"), key := Value.str (Str.ofString "add") 299, val := Value.ref 87 }, { hash := PyData.keyHash P (Str.ofString "prepare"), key := Value.str (Str.ofString "prepare") 305, val := Value.ref 92 }, { hash := PyData.keyHash P (Str.ofString "get_ready"), key := Value.str (Str.ofString "get_ready") 315, val := Value.ref 99 }, { hash := PyData.keyHash P (Str.ofString "is_active"), key := Value.str (Str.ofString "is_active") 322, val := Value.ref 106 }, { hash := PyData.keyHash P (Str.ofString "__bool__"), key := Value.str (Str.ofString "__bool__") 329, val := Value.ref 113 }, { hash := PyData.keyHash P (Str.ofString "done"), key := Value.str (Str.ofString "done") 343, val := Value.ref 120 }, { hash := PyData.keyHash P (Str.ofString "_find_cycle"), key := Value.str (Str.ofString "_find_cycle") 356, val := Value.ref 127 }, { hash := PyData.keyHash P (Str.ofString "static_order"), key := Value.str (Str.ofString "static_order") 363, val := Value.ref 134 }, { hash := PyData.keyHash P (Str.ofString "__static_attributes__"), key := Value.str (Str.ofString "__static_attributes__") 368, val := Value.ref 135 }, { hash := PyData.keyHash P (Str.ofString "__dict__"), key := Value.str (Str.ofString "__dict__") 370, val := Value.ref 138 }, { hash := PyData.keyHash P (Str.ofString "__weakref__"), key := Value.str (Str.ofString "__weakref__") 372, val := Value.ref 139 }, { hash := PyData.keyHash P (Str.ofString "__doc__"), key := Value.str (Str.ofString "__doc__") 373, val := Value.none }] 4 })
noncomputable def k137 (P : Params) : Nat × Obj := (137, { cls := Value.type "type", data := Data.cls { name := Str.ofString "TopologicalSorter", bases := [Value.type "object"], mro := [Value.ref 137, Value.type "object"], ns := 136, qualname := Str.ofString "TopologicalSorter" }, slots := #[none, none, some (Value.str (Str.ofString "TopologicalSorter") 257), some (Value.str (Str.ofString "TopologicalSorter") 265), some (Value.builtin "object.__new__"), some (Value.bool true)] })
noncomputable def k138 (P : Params) : Nat × Obj := (138, { cls := Value.type "getset_descriptor", data := Data.fields #[Value.str (Str.ofString "__dict__") 369, Value.ref 137, Value.builtin "function.__dict__", Value.builtin "function.__dict__#set"] })
noncomputable def k139 (P : Params) : Nat × Obj := (139, { cls := Value.type "getset_descriptor", data := Data.fields #[Value.str (Str.ofString "__weakref__") 371, Value.ref 137, Value.builtin "ExceptionGroup.__weakref__", Value.none] })
noncomputable def k144 (P : Params) : Nat × Obj := (144, { cls := Value.type "tuple", data := Data.seq #[Value.str (Str.ofString "high") 381, Value.str (Str.ofString "wide") 382, Value.str (Str.ofString "sorter") 383, Value.str (Str.ofString "place") 384, Value.str (Str.ofString "needs") 385] })
noncomputable def k147 (P : Params) : Nat × Obj := (147, { cls := Value.type "code", data := Data.fields #[Value.str (Str.ofString "_law_field") 378, Value.str (Str.ofString "_law_field") 379, Value.str (Str.ofString "/claim/cut.py") 380, Value.int 123 0, Value.int 2 0, Value.int 0 0, Value.int 0 0, Value.int 3 0, Value.ref 142, Value.bool true, Value.int 181 0, Value.ref 143, Value.none, Value.ref 144, Value.ref 145, Value.ref 146, Value.int 386 0, Value.int 123 0, Value.str (Str.ofString "/claim/cut.py") 387] })
noncomputable def k148 (P : Params) : Nat × Obj := (148, { cls := Value.type "function", data := Data.func { name := fName (tp 8), qualname := Str.ofString "_law_field", params := fArgs (tp 8), body := FuncBody.stmts (fBody (tp 8)), scope := fScope (tp 8), globals := 3, closure := [], defaults := Value.none, kwdefaults := Value.none, pyModule := Value.str (Str.ofString "law_dm0130_08") 376, code := Value.ref 147 } })
noncomputable def k151 (P : Params) : Nat × Obj := (151, { cls := Value.type "tuple", data := Data.seq #[Value.str (Str.ofString "high") 392, Value.str (Str.ofString "wide") 393, Value.str (Str.ofString "picks") 394, Value.str (Str.ofString "sorter") 395, Value.str (Str.ofString "waiting") 396, Value.str (Str.ofString "course") 397, Value.str (Str.ofString "place") 398] })
noncomputable def k154 (P : Params) : Nat × Obj := (154, { cls := Value.type "code", data := Data.fields #[Value.str (Str.ofString "_law_course") 389, Value.str (Str.ofString "_law_course") 390, Value.str (Str.ofString "/claim/cut.py") 391, Value.int 134 0, Value.int 3 0, Value.int 0 0, Value.int 0 0, Value.int 3 0, Value.ref 149, Value.bool true, Value.int 181 0, Value.ref 150, Value.none, Value.ref 151, Value.ref 152, Value.ref 153, Value.int 399 0, Value.int 134 0, Value.str (Str.ofString "/claim/cut.py") 400] })
noncomputable def k155 (P : Params) : Nat × Obj := (155, { cls := Value.type "function", data := Data.func { name := fName (tp 9), qualname := Str.ofString "_law_course", params := fArgs (tp 9), body := FuncBody.stmts (fBody (tp 9)), scope := fScope (tp 9), globals := 3, closure := [], defaults := Value.none, kwdefaults := Value.none, pyModule := Value.str (Str.ofString "law_dm0130_08") 376, code := Value.ref 154 } })
noncomputable def k158 (P : Params) : Nat × Obj := (158, { cls := Value.type "tuple", data := Data.seq #[Value.str (Str.ofString "sorter") 405, Value.str (Str.ofString "places") 406] })
noncomputable def k161 (P : Params) : Nat × Obj := (161, { cls := Value.type "code", data := Data.fields #[Value.str (Str.ofString "_law_refused") 402, Value.str (Str.ofString "_law_refused") 403, Value.str (Str.ofString "/claim/cut.py") 404, Value.int 144 0, Value.int 2 0, Value.int 0 0, Value.int 0 0, Value.int 3 0, Value.ref 156, Value.bool true, Value.int 181 0, Value.ref 157, Value.none, Value.ref 158, Value.ref 159, Value.ref 160, Value.int 407 0, Value.int 144 0, Value.str (Str.ofString "/claim/cut.py") 408] })
noncomputable def k162 (P : Params) : Nat × Obj := (162, { cls := Value.type "function", data := Data.func { name := fName (tp 10), qualname := Str.ofString "_law_refused", params := fArgs (tp 10), body := FuncBody.stmts (fBody (tp 10)), scope := fScope (tp 10), globals := 3, closure := [], defaults := Value.none, kwdefaults := Value.none, pyModule := Value.str (Str.ofString "law_dm0130_08") 376, code := Value.ref 161 } })
noncomputable def k165 (P : Params) : Nat × Obj := (165, { cls := Value.type "tuple", data := Data.seq #[Value.str (Str.ofString "high") 413, Value.str (Str.ofString "wide") 414, Value.str (Str.ofString "course") 415, Value.str (Str.ofString "sorter") 416, Value.str (Str.ofString "held") 417, Value.str (Str.ofString "fresh") 418, Value.str (Str.ofString "place") 419] })
noncomputable def k168 (P : Params) : Nat × Obj := (168, { cls := Value.type "code", data := Data.fields #[Value.str (Str.ofString "_law_round") 410, Value.str (Str.ofString "_law_round") 411, Value.str (Str.ofString "/claim/cut.py") 412, Value.int 150 0, Value.int 3 0, Value.int 0 0, Value.int 0 0, Value.int 3 0, Value.ref 163, Value.bool true, Value.int 181 0, Value.ref 164, Value.none, Value.ref 165, Value.ref 166, Value.ref 167, Value.int 420 0, Value.int 150 0, Value.str (Str.ofString "/claim/cut.py") 421] })
noncomputable def k169 (P : Params) : Nat × Obj := (169, { cls := Value.type "function", data := Data.func { name := fName (tp 11), qualname := Str.ofString "_law_round", params := fArgs (tp 11), body := FuncBody.stmts (fBody (tp 11)), scope := fScope (tp 11), globals := 3, closure := [], defaults := Value.none, kwdefaults := Value.none, pyModule := Value.str (Str.ofString "law_dm0130_08") 376, code := Value.ref 168 } })
noncomputable def k173 (P : Params) : Nat × Obj := (173, { cls := Value.type "code", data := Data.fields #[Value.str (Str.ofString "_law_cells") 423, Value.str (Str.ofString "_law_cells") 424, Value.str (Str.ofString "/claim/cut.py") 425, Value.int 166 0, Value.int 2 0, Value.int 0 0, Value.int 0 0, Value.int 3 0, Value.ref 170, Value.bool true, Value.int 181 0, Value.ref 171, Value.none, Value.none, Value.none, Value.ref 172, Value.int 426 0, Value.int 166 0, Value.str (Str.ofString "/claim/cut.py") 427] })
noncomputable def k174 (P : Params) : Nat × Obj := (174, { cls := Value.type "function", data := Data.func { name := fName (tp 12), qualname := Str.ofString "_law_cells", params := fArgs (tp 12), body := FuncBody.stmts (fBody (tp 12)), scope := fScope (tp 12), globals := 3, closure := [], defaults := Value.none, kwdefaults := Value.none, pyModule := Value.str (Str.ofString "law_dm0130_08") 376, code := Value.ref 173 } })
noncomputable def k178 (P : Params) : Nat × Obj := (178, { cls := Value.type "code", data := Data.fields #[Value.str (Str.ofString "law") 429, Value.str (Str.ofString "law") 430, Value.str (Str.ofString "/claim/cut.py") 431, Value.int 181 0, Value.int 1 0, Value.int 0 0, Value.int 0 0, Value.int 3 0, Value.ref 175, Value.bool true, Value.int 181 0, Value.ref 176, Value.none, Value.none, Value.none, Value.ref 177, Value.int 432 0, Value.int 181 0, Value.str (Str.ofString "/claim/cut.py") 433] })
noncomputable def k179 (P : Params) : Nat × Obj := (179, { cls := Value.type "function", data := Data.func { name := fName (tp 13), qualname := Str.ofString "law", params := fArgs (tp 13), body := FuncBody.stmts (fBody (tp 13)), scope := fScope (tp 13), globals := 3, closure := [], defaults := Value.none, kwdefaults := Value.none, pyModule := Value.str (Str.ofString "law_dm0130_08") 376, code := Value.ref 178 } })
noncomputable def KK (P : Params) : Frag := [k3 P, k17 P, k20 P, k21 P, k29 P, k32 P, k35 P, k36 P, k37 P, k39 P, k40 P, k41 P, k42 P, k43 P, k46 P, k54 P, k55 P, k56 P, k66 P, k69 P, k72 P, k73 P, k76 P, k79 P, k80 P, k83 P, k86 P, k87 P, k91 P, k92 P, k95 P, k98 P, k99 P, k102 P, k105 P, k106 P, k109 P, k112 P, k113 P, k116 P, k119 P, k120 P, k123 P, k126 P, k127 P, k130 P, k133 P, k134 P, k135 P, k136 P, k137 P, k138 P, k139 P, k144 P, k147 P, k148 P, k151 P, k154 P, k155 P, k158 P, k161 P, k162 P, k165 P, k168 P, k169 P, k173 P, k174 P, k178 P, k179 P]
noncomputable def KA : List Addr := [3, 17, 20, 21, 29, 32, 35, 36, 37, 39, 40, 41, 42, 43, 46, 54, 55, 56, 66, 69, 72, 73, 76, 79, 80, 83, 86, 87, 91, 92, 95, 98, 99, 102, 105, 106, 109, 112, 113, 116, 119, 120, 123, 126, 127, 130, 133, 134, 135, 136, 137, 138, 139, 144, 147, 148, 151, 154, 155, 158, 161, 162, 165, 168, 169, 173, 174, 178, 179]
noncomputable def dropAt : List Nat → Nat → List Stmt → List Stmt
  | _, _, [] => []
  | ds, i, s :: l => if ds.contains i then dropAt ds (i + 1) l else s :: dropAt ds (i + 1) l
noncomputable def vw : Program := { Challenge.pw_dm0130_08 with main := { Challenge.pw_dm0130_08.main with body := dropAt [1, 7] 0 Challenge.pw_dm0130_08.main.body } }
end
section
theorem sim_record {P : PC} (hK : P.K = KK P.w.params) (hP : POk P) (hF : ∀ x ∈ freeNames, freeName P x) (hS : P.cS = 137) (hN : P.cN = 40) (hE : P.cE = 55) : FSim P 36 0 fp_record := by
  refine fsim_of (fd := _) (D := D_record) (by rw [hK]; with_unfolding_all rfl) (by rw [hK]; kernel_rfl) ?_ (by decide) ?_
  · exact (sim_seq (sim_assign (sim_name (i := 1) rfl) (sim_aAttrN hP (sim_name (i := 0) rfl))) (sim_seq (sim_assign sim_cint (sim_aAttrN hP (sim_name (i := 0) rfl))) (sim_one (sim_assign (sim_list sim_nil) (sim_aAttrN hP (sim_name (i := 0) rfl))))))
  · intro us s h _
    match us, h with
    | [a0, a1], _ => exact BindsTo.of_eq (by with_unfolding_all rfl)
theorem cls_record {P : PC} (hK : P.K = KK P.w.params) (hP : POk P) (hF : ∀ x ∈ freeNames, freeName P x) (hS : P.cS = 137) (hN : P.cN = 40) (hE : P.cE = 55) : ClsOk P P.cN 36 0 fp_record := by
  have hf := sim_record hK hP hF hS hN hE
  constructor <;> first | exact hf | ((try rw [hK]) <;> (try rw [hN]) <;> kernel_rfl)
theorem sim_sorter {P : PC} (hK : P.K = KK P.w.params) (hP : POk P) (hF : ∀ x ∈ freeNames, freeName P x) (hS : P.cS = 137) (hN : P.cN = 40) (hE : P.cE = 55) : FSim P 73 0 fp_sorter := by
  refine fsim_dflt (fd := _) (D := D_sorter) (by rw [hK]; with_unfolding_all rfl) (by rw [hK]; kernel_rfl) ?_ (by decide) ?_
  · exact (sim_seq (sim_assign sim_dict0 (sim_aAttrS hP (sim_name (i := 0) rfl))) (sim_seq (sim_assign sim_cnone (sim_aAttrS hP (sim_name (i := 0) rfl))) (sim_seq (sim_assign sim_cint (sim_aAttrS hP (sim_name (i := 0) rfl))) (sim_seq (sim_assign sim_cint (sim_aAttrS hP (sim_name (i := 0) rfl))) (sim_one (sim_sif (sim_tCmp (sim_name (i := 1) rfl) sim_cnone (fun F O a b u v ha hb => op_isNotN ha hb)) (sim_ssdead _) sim_snil))))))
  · intro us s h X
    rw [hK] at X
    match us, h with
    | [a0], _ => exact kp_binds X (by intro S; with_unfolding_all rfl)
theorem cls_sorter {P : PC} (hK : P.K = KK P.w.params) (hP : POk P) (hF : ∀ x ∈ freeNames, freeName P x) (hS : P.cS = 137) (hN : P.cN = 40) (hE : P.cE = 55) : ClsOk P P.cS 73 0 fp_sorter := by
  have hf := sim_sorter hK hP hF hS hN hE
  constructor <;> first | exact hf | ((try rw [hK]) <;> (try rw [hS]) <;> kernel_rfl)
theorem sim_get_nodeinfo {P : PC} (hK : P.K = KK P.w.params) (hP : POk P) (hF : ∀ x ∈ freeNames, freeName P x) (hS : P.cS = 137) (hN : P.cN = 40) (hE : P.cE = 55) : FSim P 80 1 fp_get_nodeinfo := by
  refine fsim_of (fd := _) (D := D_get_nodeinfo) (by rw [hK]; with_unfolding_all rfl) (by rw [hK]; kernel_rfl) ?_ (by decide) ?_
  · exact (sim_seq (sim_sif (sim_tCmp (sim_wal (sim_bm PySem.F.plainAttrs_dict PySem.F.slot_dict_get PySem.F.type_dict_get (sim_attrS hP (sim_name (i := 0) rfl)) (sim_arCons (sim_cons (sim_name (i := 1) rfl) sim_nil)) fun F O ov vs u us hu hr => op_get ov vs u us hu hr) (sim_aName (i := 2) rfl)) sim_cnone (fun F O a b u v ha hb => op_isN ha hb)) (sim_one (sim_assign2 (sim_newN (cls_record hK hP hF hS hN hE) (by decide) (by rw [hK, hN]; kernel_rfl) (sim_arCons (sim_cons (sim_name (i := 1) rfl) sim_nil)) (by decide)) (sim_aItem (sim_attrS hP (sim_name (i := 0) rfl)) (sim_name (i := 1) rfl)) (sim_aName (i := 2) rfl))) sim_snil) (sim_one (sim_ret (sim_name (i := 2) rfl))))
  · intro us s h _
    match us, h with
    | [a0, a1], _ => exact BindsTo.of_eq (by with_unfolding_all rfl)
theorem meth_get_nodeinfo {P : PC} (hK : P.K = KK P.w.params) (hS : P.cS = 137) : MethOk P "_get_nodeinfo" 80 := by
  constructor <;> (try rw [hK]) <;> (try rw [hS]) <;> first | (with_reducible (show _ ≠ _); decide) | kernel_rfl
theorem sim_add {P : PC} (hK : P.K = KK P.w.params) (hP : POk P) (hF : ∀ x ∈ freeNames, freeName P x) (hS : P.cS = 137) (hN : P.cN = 40) (hE : P.cE = 55) : FSim P 87 2 fp_add := by
  refine fsim_ofS (fd := _) (D := D_add) (by rw [hK]; with_unfolding_all rfl) (by rw [hK]; kernel_rfl) ?_ (by decide) ?_
  · exact (sim_seq (sim_sif (sim_tCmp (sim_attrS hP (sim_name (i := 0) rfl)) sim_cnone (fun F O a b u v ha hb => op_isNotN ha hb)) (sim_ssdead _) sim_snil) (sim_seq (sim_assign (sim_meth (meth_get_nodeinfo hK hS) (sim_get_nodeinfo hK hP hF hS hN hE) (sim_name (i := 0) rfl) (sim_arCons (sim_cons (sim_name (i := 1) rfl) sim_nil)) (by decide)) (sim_aName (i := 3) rfl)) (sim_seq (sim_augN hP (sim_name (i := 3) rfl) (sim_bi (by decide) (hF _ (by decide)) (by decide +kernel) (sim_cons (sim_name (i := 2) rfl) sim_nil) (fun F O vs us hr => op_len vs us hr)) (fun F O a b u v ha hb => in_add ha hb)) (sim_one (sim_for (sim_iSeq (sim_name (i := 2) rfl)) (sim_aName (i := 4) rfl) (sim_seq (sim_assign (sim_meth (meth_get_nodeinfo hK hS) (sim_get_nodeinfo hK hP hF hS hN hE) (sim_name (i := 0) rfl) (sim_arCons (sim_cons (sim_name (i := 4) rfl) sim_nil)) (by decide)) (sim_aName (i := 5) rfl)) (sim_one (sim_expr (sim_bm PySem.F.plainAttrs_list PySem.F.slot_list_append PySem.F.type_list_append (sim_attrN hP (sim_name (i := 5) rfl)) (sim_arCons (sim_cons (sim_name (i := 1) rfl) sim_nil)) fun F O ov vs u us hu hr => op_append ov vs u us hu hr)))))))))
  · intro us s A Q E h1 h2 _ hq
    match us, h1 with
    | [a0, a1], _ => exact bind_tuple (rest := []) (f := (fun t => [("self", a0), ("node", a1), ("predecessors", t)])) (by with_unfolding_all rfl) (by simp) hq
    | a0 :: a1 :: c :: rest, _ => exact bind_tuple (rest := c :: rest) (f := (fun t => [("self", a0), ("node", a1), ("predecessors", t)])) (by with_unfolding_all rfl) (by simp at h2 ⊢; (first | lia | omega)) hq
theorem meth_add {P : PC} (hK : P.K = KK P.w.params) (hS : P.cS = 137) : MethOk P "add" 87 := by
  constructor <;> (try rw [hK]) <;> (try rw [hS]) <;> first | (with_reducible (show _ ≠ _); decide) | kernel_rfl
theorem sim_find_cycle {P : PC} (hK : P.K = KK P.w.params) (hP : POk P) (hF : ∀ x ∈ freeNames, freeName P x) (hS : P.cS = 137) (hN : P.cN = 40) (hE : P.cE = 55) : FSim P 127 0 fp_find_cycle := by
  refine fsim_of (fd := _) (D := D_find_cycle) (by rw [hK]; with_unfolding_all rfl) (by rw [hK]; kernel_rfl) ?_ (by decide) ?_
  · exact (sim_seq (sim_assign (sim_attrS hP (sim_name (i := 0) rfl)) (sim_aName (i := 1) rfl)) (sim_seq (sim_assign (sim_list sim_nil) (sim_aName (i := 2) rfl)) (sim_seq (sim_assign (sim_list sim_nil) (sim_aName (i := 3) rfl)) (sim_seq (sim_assign (sim_set0 (by decide) (hF _ (by decide)) (by decide +kernel)) (sim_aName (i := 4) rfl)) (sim_seq (sim_assign sim_dict0 (sim_aName (i := 5) rfl)) (sim_seq (sim_for (sim_iSeq (sim_name (i := 1) rfl)) (sim_aName (i := 6) rfl) (sim_seq (sim_sif (sim_tCmp (sim_name (i := 6) rfl) (sim_name (i := 4) rfl) (fun F O a b u v ha hb => op_in ha hb)) (sim_one sim_continue) sim_snil) (sim_one (sim_while (sim_tOf sim_cbool) (sim_seq (sim_sif (sim_tCmp (sim_name (i := 6) rfl) (sim_name (i := 4) rfl) (fun F O a b u v ha hb => op_in ha hb)) (sim_one (sim_sif (sim_tCmp (sim_name (i := 6) rfl) (sim_name (i := 5) rfl) (fun F O a b u v ha hb => op_in ha hb)) (sim_one (sim_ret (sim_bin (sim_slice (sim_name (i := 2) rfl) (sim_oSome (sim_item (sim_name (i := 5) rfl) (sim_name (i := 6) rfl))) sim_oNone) (sim_list (sim_cons (sim_name (i := 6) rfl) sim_nil)) (fun F O a b u v ha hb => op_add O ha hb)))) sim_snil)) (sim_seq (sim_expr (sim_bm PySem.F.plainAttrs_set PySem.F.slot_set_add PySem.F.type_set_add (sim_name (i := 4) rfl) (sim_arCons (sim_cons (sim_name (i := 6) rfl) sim_nil)) fun F O ov vs u us hu hr => op_setAdd ov vs u us hu hr)) (sim_seq (sim_expr (sim_bm PySem.F.plainAttrs_list PySem.F.slot_list_append PySem.F.type_list_append (sim_name (i := 3) rfl) (sim_arCons (sim_cons (sim_iterNext (by decide) (hF _ (by decide)) boot_iter rfl (sim_cons (sim_attrN hP (sim_item (sim_name (i := 1) rfl) (sim_name (i := 6) rfl))) sim_nil)) sim_nil)) fun F O ov vs u us hu hr => op_append ov vs u us hu hr)) (sim_seq (sim_assign (sim_bi (by decide) (hF _ (by decide)) (by decide +kernel) (sim_cons (sim_name (i := 2) rfl) sim_nil) (fun F O vs us hr => op_len vs us hr)) (sim_aItem (sim_name (i := 5) rfl) (sim_name (i := 6) rfl))) (sim_one (sim_expr (sim_bm PySem.F.plainAttrs_list PySem.F.slot_list_append PySem.F.type_list_append (sim_name (i := 2) rfl) (sim_arCons (sim_cons (sim_name (i := 6) rfl) sim_nil)) fun F O ov vs u us hu hr => op_append ov vs u us hu hr))))))) (sim_one (sim_while (sim_tOf (sim_name (i := 2) rfl)) (sim_one (sim_try (sim_seq (sim_assign (sim_nextCall (sim_item (sim_name (i := 3) rfl) (sim_un sim_cint fun F O a u ha => op_neg ha))) (sim_aName (i := 6) rfl)) (sim_one sim_break)) sim_snil (sim_seq (sim_del (sim_name (i := 5) rfl) (sim_bm PySem.F.plainAttrs_list PySem.F.slot_list_pop PySem.F.type_list_pop (sim_name (i := 2) rfl) sim_arNil fun F O ov vs u us hu hr => op_pop ov vs u us hu hr)) (sim_one (sim_expr (sim_bm PySem.F.plainAttrs_list PySem.F.slot_list_pop PySem.F.type_list_pop (sim_name (i := 3) rfl) sim_arNil fun F O ov vs u us hu hr => op_pop ov vs u us hu hr)))) (classOf_bi (v := .type "StopIteration") (by decide) (hF _ (by decide)) (by decide +kernel)) (by rw [hK]; simp only [exCls]; kernel_rfl))) (sim_one sim_break)))) sim_snil)))) (sim_one (sim_ret sim_cnone))))))))
  · intro us s h _
    match us, h with
    | [a0], _ => exact BindsTo.of_eq (by with_unfolding_all rfl)
theorem meth_find_cycle {P : PC} (hK : P.K = KK P.w.params) (hS : P.cS = 137) : MethOk P "_find_cycle" 127 := by
  constructor <;> (try rw [hK]) <;> (try rw [hS]) <;> first | (with_reducible (show _ ≠ _); decide) | kernel_rfl
theorem sim_prepare {P : PC} (hK : P.K = KK P.w.params) (hP : POk P) (hF : ∀ x ∈ freeNames, freeName P x) (hS : P.cS = 137) (hN : P.cN = 40) (hE : P.cE = 55) : FSim P 92 1 fp_prepare := by
  refine fsim_of (fd := _) (D := D_prepare) (by rw [hK]; with_unfolding_all rfl) (by rw [hK]; kernel_rfl) ?_ (by decide) ?_
  · exact (sim_seq (sim_sif (sim_tCmp (sim_attrS hP (sim_name (i := 0) rfl)) sim_cnone (fun F O a b u v ha hb => op_isNotN ha hb)) (sim_ssdead _) sim_snil) (sim_seq (sim_assign (sim_comp1 (D' := D_prepare_c1) (m := [none]) (ts := (some (tOf (pBin opEq (pUn (opAttrN 1) (pName 0)) (pInt 0))))) (by kernel_rfl) (sim_iVals (sim_attrS hP (sim_name (i := 0) rfl))) (sim_aName (i := 0) rfl) (sim_tCmp (sim_attrN hP (sim_name (i := 0) rfl)) sim_cint (fun F O a b u v ha hb => op_eq O ha hb)) (sim_attrN hP (sim_name (i := 0) rfl))) (sim_aAttrS hP (sim_name (i := 0) rfl))) (sim_seq (sim_assign (sim_meth (meth_find_cycle hK hS) (sim_find_cycle hK hP hF hS hN hE) (sim_name (i := 0) rfl) sim_arNil (by decide)) (sim_aName (i := 1) rfl)) (sim_one (sim_sif (sim_tOf (sim_name (i := 1) rfl)) (sim_one (sim_raiseOwn (by decide) (by rw [hK, hE]; kernel_rfl) (by rw [hK, hE]; kernel_rfl) PySem.F.excBase_ValueError (by decide +kernel) PySem.F.excBase_ValueError (sim_vcons sim_vfstr (sim_vcons (sim_vof (sim_name (i := 1) rfl)) sim_vnil)))) sim_snil)))))
  · intro us s h _
    match us, h with
    | [a0], _ => exact BindsTo.of_eq (by with_unfolding_all rfl)
theorem meth_prepare {P : PC} (hK : P.K = KK P.w.params) (hS : P.cS = 137) : MethOk P "prepare" 92 := by
  constructor <;> (try rw [hK]) <;> (try rw [hS]) <;> first | (with_reducible (show _ ≠ _); decide) | kernel_rfl
theorem sim_get_ready {P : PC} (hK : P.K = KK P.w.params) (hP : POk P) (hF : ∀ x ∈ freeNames, freeName P x) (hS : P.cS = 137) (hN : P.cN = 40) (hE : P.cE = 55) : FSim P 99 0 fp_get_ready := by
  refine fsim_of (fd := _) (D := D_get_ready) (by rw [hK]; with_unfolding_all rfl) (by rw [hK]; kernel_rfl) ?_ (by decide) ?_
  · exact (sim_seq (sim_sif (sim_tCmp (sim_attrS hP (sim_name (i := 0) rfl)) sim_cnone (fun F O a b u v ha hb => op_isN ha hb)) (sim_ssdead _) sim_snil) (sim_seq (sim_assign (sim_ty (by decide) (hF _ (by decide)) (by decide +kernel) (sim_cons (sim_attrS hP (sim_name (i := 0) rfl)) sim_nil) (fun F O vs us hr => op_tuple vs us hr)) (sim_aName (i := 1) rfl)) (sim_seq (sim_assign (sim_attrS hP (sim_name (i := 0) rfl)) (sim_aName (i := 2) rfl)) (sim_seq (sim_for (sim_iSeq (sim_name (i := 1) rfl)) (sim_aName (i := 3) rfl) (sim_one (sim_assign (sim_gconst (by decide) (by rw [hK]; with_unfolding_all rfl)) (sim_aAttrN hP (sim_item (sim_name (i := 2) rfl) (sim_name (i := 3) rfl)))))) (sim_seq (sim_expr (sim_bm PySem.F.plainAttrs_list PySem.F.slot_list_clear PySem.F.type_list_clear (sim_attrS hP (sim_name (i := 0) rfl)) sim_arNil fun F O ov vs u us hu hr => op_clear ov vs u us hu hr)) (sim_seq (sim_augS hP (sim_name (i := 0) rfl) (sim_bi (by decide) (hF _ (by decide)) (by decide +kernel) (sim_cons (sim_name (i := 1) rfl) sim_nil) (fun F O vs us hr => op_len vs us hr)) (fun F O a b u v ha hb => in_add ha hb)) (sim_one (sim_ret (sim_name (i := 1) rfl)))))))))
  · intro us s h _
    match us, h with
    | [a0], _ => exact BindsTo.of_eq (by with_unfolding_all rfl)
theorem meth_get_ready {P : PC} (hK : P.K = KK P.w.params) (hS : P.cS = 137) : MethOk P "get_ready" 99 := by
  constructor <;> (try rw [hK]) <;> (try rw [hS]) <;> first | (with_reducible (show _ ≠ _); decide) | kernel_rfl
theorem sim_done8 {P : PC} (hK : P.K = KK P.w.params) (hP : POk P) (hF : ∀ x ∈ freeNames, freeName P x) (hS : P.cS = 137) (hN : P.cN = 40) (hE : P.cE = 55) : FSim P 120 0 fp_done8 := by
  refine fsim_ofS (fd := _) (D := D_done8) (by rw [hK]; with_unfolding_all rfl) (by rw [hK]; kernel_rfl) ?_ (by decide) ?_
  · exact (sim_seq (sim_sif (sim_tCmp (sim_attrS hP (sim_name (i := 0) rfl)) sim_cnone (fun F O a b u v ha hb => op_isN ha hb)) (sim_ssdead _) sim_snil) (sim_seq (sim_assign (sim_attrS hP (sim_name (i := 0) rfl)) (sim_aName (i := 2) rfl)) (sim_one (sim_for (sim_iSeq (sim_name (i := 1) rfl)) (sim_aName (i := 3) rfl) (sim_seq (sim_sif (sim_tCmp (sim_wal (sim_bm PySem.F.plainAttrs_dict PySem.F.slot_dict_get PySem.F.type_dict_get (sim_name (i := 2) rfl) (sim_arCons (sim_cons (sim_name (i := 3) rfl) sim_nil)) fun F O ov vs u us hu hr => op_get ov vs u us hu hr) (sim_aName (i := 4) rfl)) sim_cnone (fun F O a b u v ha hb => op_isN ha hb)) (sim_ssdead _) sim_snil) (sim_seq (sim_assign (sim_attrN hP (sim_name (i := 4) rfl)) (sim_aName (i := 5) rfl)) (sim_seq (sim_sif (sim_tCmp (sim_name (i := 5) rfl) (sim_gconst (by decide) (by rw [hK]; with_unfolding_all rfl)) (fun F O a b u v ha hb => op_ne O ha hb)) (sim_one (sim_sif (sim_tCmp (sim_name (i := 5) rfl) sim_cint (fun F O a b u v ha hb => op_ge ha hb)) (sim_one (sim_raiseV (by decide) (hF _ (by decide)) (by decide +kernel) (sim_name (i := 3) rfl))) (sim_one (sim_sif (sim_tCmp (sim_name (i := 5) rfl) (sim_gconst (by decide) (by rw [hK]; with_unfolding_all rfl)) (fun F O a b u v ha hb => op_eq O ha hb)) (sim_ssdead _) (sim_ssdead _))))) sim_snil) (sim_seq (sim_assign (sim_gconst (by decide) (by rw [hK]; with_unfolding_all rfl)) (sim_aAttrN hP (sim_name (i := 4) rfl))) (sim_seq (sim_for (sim_iSeq (sim_attrN hP (sim_name (i := 4) rfl))) (sim_aName (i := 6) rfl) (sim_seq (sim_assign (sim_item (sim_name (i := 2) rfl) (sim_name (i := 6) rfl)) (sim_aName (i := 7) rfl)) (sim_seq (sim_augN hP (sim_name (i := 7) rfl) sim_cint (fun F O a b u v ha hb => in_sub ha hb)) (sim_one (sim_sif (sim_tCmp (sim_attrN hP (sim_name (i := 7) rfl)) sim_cint (fun F O a b u v ha hb => op_eq O ha hb)) (sim_one (sim_expr (sim_bm PySem.F.plainAttrs_list PySem.F.slot_list_append PySem.F.type_list_append (sim_attrS hP (sim_name (i := 0) rfl)) (sim_arCons (sim_cons (sim_name (i := 6) rfl) sim_nil)) fun F O ov vs u us hu hr => op_append ov vs u us hu hr))) sim_snil))))) (sim_one (sim_augS hP (sim_name (i := 0) rfl) sim_cint (fun F O a b u v ha hb => in_add ha hb))))))))))))
  · intro us s A Q E h1 h2 _ hq
    match us, h1 with
    | [a0], _ => exact bind_tuple (rest := []) (f := (fun t => [("self", a0), ("nodes", t)])) (by with_unfolding_all rfl) (by simp) hq
    | a0 :: c :: rest, _ => exact bind_tuple (rest := c :: rest) (f := (fun t => [("self", a0), ("nodes", t)])) (by with_unfolding_all rfl) (by simp at h2 ⊢; (first | lia | omega)) hq
theorem meth_done8 {P : PC} (hK : P.K = KK P.w.params) (hS : P.cS = 137) : MethOk P "done" 120 := by
  constructor <;> (try rw [hK]) <;> (try rw [hS]) <;> first | (with_reducible (show _ ≠ _); decide) | kernel_rfl
theorem sim_field {P : PC} (hK : P.K = KK P.w.params) (hP : POk P) (hF : ∀ x ∈ freeNames, freeName P x) (hS : P.cS = 137) (hN : P.cN = 40) (hE : P.cE = 55) : FSim P 148 3 fp_field := by
  refine fsim_of (fd := _) (D := D_field) (by rw [hK]; with_unfolding_all rfl) (by rw [hK]; kernel_rfl) ?_ (by decide) ?_
  · exact (sim_seq (sim_assign (sim_newS (cls_sorter hK hP hF hS hN hE) (by decide) (by rw [hK, hS]; kernel_rfl) sim_arNil (by decide)) (sim_aName (i := 2) rfl)) (sim_seq (sim_for (sim_iRange (by decide) (hF _ (by decide)) boot_range (sim_cons (sim_bin (sim_bin (sim_name (i := 0) rfl) (sim_name (i := 1) rfl) (fun F O a b u v ha hb => op_mul O ha hb)) sim_cint (fun F O a b u v ha hb => op_sub ha hb)) (sim_cons (sim_un sim_cint fun F O a u ha => op_neg ha) (sim_cons (sim_un sim_cint fun F O a u ha => op_neg ha) sim_nil)))) (sim_aName (i := 3) rfl) (sim_seq (sim_assign (sim_list sim_nil) (sim_aName (i := 4) rfl)) (sim_seq (sim_sif (sim_tCmp (sim_bin (sim_name (i := 3) rfl) (sim_name (i := 1) rfl) (fun F O a b u v ha hb => op_mod ha hb)) sim_cint (fun F O a b u v ha hb => op_gt ha hb)) (sim_one (sim_expr (sim_bm PySem.F.plainAttrs_list PySem.F.slot_list_append PySem.F.type_list_append (sim_name (i := 4) rfl) (sim_arCons (sim_cons (sim_bin (sim_name (i := 3) rfl) sim_cint (fun F O a b u v ha hb => op_sub ha hb)) sim_nil)) fun F O ov vs u us hu hr => op_append ov vs u us hu hr))) sim_snil) (sim_seq (sim_sif (sim_tCmp (sim_name (i := 3) rfl) (sim_name (i := 1) rfl) (fun F O a b u v ha hb => op_ge ha hb)) (sim_one (sim_expr (sim_bm PySem.F.plainAttrs_list PySem.F.slot_list_append PySem.F.type_list_append (sim_name (i := 4) rfl) (sim_arCons (sim_cons (sim_bin (sim_name (i := 3) rfl) (sim_name (i := 1) rfl) (fun F O a b u v ha hb => op_sub ha hb)) sim_nil)) fun F O ov vs u us hu hr => op_append ov vs u us hu hr))) sim_snil) (sim_one (sim_expr (sim_methS hP (meth_add hK hS) (sim_add hK hP hF hS hN hE) (sim_name (i := 2) rfl) (sim_arCons (sim_cons (sim_name (i := 3) rfl) (sim_lStar (sim_name (i := 4) rfl)))) (by decide)))))))) (sim_seq (sim_expr (sim_meth (meth_prepare hK hS) (sim_prepare hK hP hF hS hN hE) (sim_name (i := 2) rfl) sim_arNil (by decide))) (sim_one (sim_ret (sim_name (i := 2) rfl))))))
  · intro us s h _
    match us, h with
    | [a0, a1], _ => exact BindsTo.of_eq (by with_unfolding_all rfl)
theorem sim_course {P : PC} (hK : P.K = KK P.w.params) (hP : POk P) (hF : ∀ x ∈ freeNames, freeName P x) (hS : P.cS = 137) (hN : P.cN = 40) (hE : P.cE = 55) : FSim P 155 4 fp_course := by
  refine fsim_of (fd := _) (D := D_course) (by rw [hK]; with_unfolding_all rfl) (by rw [hK]; kernel_rfl) ?_ (by decide) ?_
  · exact (sim_seq (sim_assign (sim_call (sim_field hK hP hF hS hN hE) (by decide) (by rw [hK]; kernel_rfl) (by rw [hK]; kernel_rfl) (sim_arCons (sim_cons (sim_name (i := 0) rfl) (sim_cons (sim_name (i := 1) rfl) sim_nil))) (by decide)) (sim_aName (i := 3) rfl)) (sim_seq (sim_assign (sim_bi (by decide) (hF _ (by decide)) (by decide +kernel) (sim_cons (sim_meth (meth_get_ready hK hS) (sim_get_ready hK hP hF hS hN hE) (sim_name (i := 3) rfl) sim_arNil (by decide)) sim_nil) (fun F O vs us hr => op_sorted vs us hr)) (sim_aName (i := 4) rfl)) (sim_seq (sim_assign (sim_list sim_nil) (sim_aName (i := 5) rfl)) (sim_seq (sim_while (sim_tCmp (sim_name (i := 4) rfl) (sim_list sim_nil) (fun F O a b u v ha hb => op_ne O ha hb)) (sim_seq (sim_assign (sim_bm PySem.F.plainAttrs_list PySem.F.slot_list_pop PySem.F.type_list_pop (sim_name (i := 4) rfl) (sim_arCons (sim_cons (sim_bin (sim_item (sim_name (i := 2) rfl) (sim_bi (by decide) (hF _ (by decide)) (by decide +kernel) (sim_cons (sim_name (i := 5) rfl) sim_nil) (fun F O vs us hr => op_len vs us hr))) (sim_bi (by decide) (hF _ (by decide)) (by decide +kernel) (sim_cons (sim_name (i := 4) rfl) sim_nil) (fun F O vs us hr => op_len vs us hr)) (fun F O a b u v ha hb => op_mod ha hb)) sim_nil)) fun F O ov vs u us hu hr => op_pop ov vs u us hu hr) (sim_aName (i := 6) rfl)) (sim_seq (sim_expr (sim_meth (meth_done8 hK hS) (sim_done8 hK hP hF hS hN hE) (sim_name (i := 3) rfl) (sim_arCons (sim_cons (sim_name (i := 6) rfl) sim_nil)) (by decide))) (sim_seq (sim_expr (sim_bm PySem.F.plainAttrs_list PySem.F.slot_list_append PySem.F.type_list_append (sim_name (i := 5) rfl) (sim_arCons (sim_cons (sim_name (i := 6) rfl) sim_nil)) fun F O ov vs u us hu hr => op_append ov vs u us hu hr)) (sim_one (sim_assign (sim_bi (by decide) (hF _ (by decide)) (by decide +kernel) (sim_cons (sim_bin (sim_name (i := 4) rfl) (sim_ty (by decide) (hF _ (by decide)) (by decide +kernel) (sim_cons (sim_meth (meth_get_ready hK hS) (sim_get_ready hK hP hF hS hN hE) (sim_name (i := 3) rfl) sim_arNil (by decide)) sim_nil) (fun F O vs us hr => op_list O vs us hr)) (fun F O a b u v ha hb => op_add O ha hb)) sim_nil) (fun F O vs us hr => op_sorted vs us hr)) (sim_aName (i := 4) rfl)))))) sim_snil) (sim_one (sim_ret (sim_name (i := 5) rfl)))))))
  · intro us s h _
    match us, h with
    | [a0, a1, a2], _ => exact BindsTo.of_eq (by with_unfolding_all rfl)
theorem sim_refused {P : PC} (hK : P.K = KK P.w.params) (hP : POk P) (hF : ∀ x ∈ freeNames, freeName P x) (hS : P.cS = 137) (hN : P.cN = 40) (hE : P.cE = 55) : FSim P 162 1 fp_refused := by
  refine fsim_of (fd := _) (D := D_refused) (by rw [hK]; with_unfolding_all rfl) (by rw [hK]; kernel_rfl) ?_ (by decide) ?_
  · exact (sim_seq (sim_try (sim_one (sim_expr (sim_methS hP (meth_done8 hK hS) (sim_done8 hK hP hF hS hN hE) (sim_name (i := 0) rfl) (sim_arStar (sim_name (i := 1) rfl)) (by decide)))) sim_snil (sim_one (sim_ret sim_cbool)) (classOf_bi (v := .type "ValueError") (by decide) (hF _ (by decide)) (by decide +kernel)) (by rw [hK]; simp only [exCls]; kernel_rfl)) (sim_one (sim_ret sim_cbool)))
  · intro us s h _
    match us, h with
    | [a0, a1], _ => exact BindsTo.of_eq (by with_unfolding_all rfl)
theorem sim_lround {P : PC} (hK : P.K = KK P.w.params) (hP : POk P) (hF : ∀ x ∈ freeNames, freeName P x) (hS : P.cS = 137) (hN : P.cN = 40) (hE : P.cE = 55) : FSim P 169 4 fp_lround := by
  refine fsim_of (fd := _) (D := D_lround) (by rw [hK]; with_unfolding_all rfl) (by rw [hK]; kernel_rfl) ?_ (by decide) ?_
  · exact (sim_seq (sim_assign (sim_call (sim_field hK hP hF hS hN hE) (by decide) (by rw [hK]; kernel_rfl) (by rw [hK]; kernel_rfl) (sim_arCons (sim_cons (sim_name (i := 0) rfl) (sim_cons (sim_name (i := 1) rfl) sim_nil))) (by decide)) (sim_aName (i := 3) rfl)) (sim_seq (sim_expr (sim_meth (meth_get_ready hK hS) (sim_get_ready hK hP hF hS hN hE) (sim_name (i := 3) rfl) sim_arNil (by decide))) (sim_seq (sim_assign (sim_item (sim_name (i := 2) rfl) sim_cint) (sim_aName (i := 4) rfl)) (sim_seq (sim_assign (sim_list sim_nil) (sim_aName (i := 5) rfl)) (sim_seq (sim_for (sim_iSeq (sim_slice (sim_name (i := 2) rfl) (sim_oSome sim_cint) sim_oNone)) (sim_aName (i := 6) rfl) (sim_seq (sim_sif (sim_tNot (sim_tOf (sim_call (sim_refused hK hP hF hS hN hE) (by decide) (by rw [hK]; kernel_rfl) (by rw [hK]; kernel_rfl) (sim_arCons (sim_cons (sim_name (i := 3) rfl) (sim_cons (sim_list (sim_cons (sim_name (i := 6) rfl) sim_nil)) sim_nil))) (by decide)))) (sim_one (sim_expr (sim_bm PySem.F.plainAttrs_list PySem.F.slot_list_append PySem.F.type_list_append (sim_name (i := 5) rfl) (sim_arCons (sim_cons (sim_name (i := 6) rfl) sim_nil)) fun F O ov vs u us hu hr => op_append ov vs u us hu hr))) (sim_one (sim_sif (sim_tOf (sim_call (sim_refused hK hP hF hS hN hE) (by decide) (by rw [hK]; kernel_rfl) (by rw [hK]; kernel_rfl) (sim_arCons (sim_cons (sim_name (i := 3) rfl) (sim_cons (sim_list (sim_cons (sim_name (i := 4) rfl) (sim_cons (sim_name (i := 6) rfl) sim_nil))) sim_nil))) (by decide))) (sim_seq (sim_expr (sim_bm PySem.F.plainAttrs_list PySem.F.slot_list_append PySem.F.type_list_append (sim_name (i := 5) rfl) (sim_arCons (sim_cons (sim_name (i := 4) rfl) sim_nil)) fun F O ov vs u us hu hr => op_append ov vs u us hu hr)) (sim_one (sim_assign (sim_name (i := 6) rfl) (sim_aName (i := 4) rfl)))) (sim_one (sim_ret (sim_list sim_nil)))))) (sim_one (sim_expr (sim_meth (meth_get_ready hK hS) (sim_get_ready hK hP hF hS hN hE) (sim_name (i := 3) rfl) sim_arNil (by decide)))))) (sim_seq (sim_expr (sim_meth (meth_done8 hK hS) (sim_done8 hK hP hF hS hN hE) (sim_name (i := 3) rfl) (sim_arCons (sim_cons (sim_name (i := 4) rfl) sim_nil)) (by decide))) (sim_one (sim_ret (sim_bin (sim_name (i := 5) rfl) (sim_list (sim_cons (sim_name (i := 4) rfl) sim_nil)) (fun F O a b u v ha hb => op_add O ha hb))))))))))
  · intro us s h _
    match us, h with
    | [a0, a1, a2], _ => exact BindsTo.of_eq (by with_unfolding_all rfl)
theorem sim_cells {P : PC} (hK : P.K = KK P.w.params) (hP : POk P) (hF : ∀ x ∈ freeNames, freeName P x) (hS : P.cS = 137) (hN : P.cN = 40) (hE : P.cE = 55) : FSim P 174 0 fp_cells := by
  refine fsim_of (fd := _) (D := D_cells) (by rw [hK]; with_unfolding_all rfl) (by rw [hK]; kernel_rfl) ?_ (by decide) ?_
  · exact (sim_seq (sim_asgComp1 (D' := D_cells_c1) (m := [none]) (ts := none) (by kernel_rfl) (sim_iRange (by decide) (hF _ (by decide)) boot_range (sim_cons (sim_bin (sim_bi (by decide) (hF _ (by decide)) (by decide +kernel) (sim_cons (sim_name (i := 0) rfl) sim_nil) (fun F O vs us hr => op_len vs us hr)) sim_cint (fun F O a b u v ha hb => op_add O ha hb)) sim_nil)) (sim_aName (i := 0) rfl) trivial (sim_list sim_nil) (sim_aName (i := 2) rfl)) (sim_seq (sim_assign (sim_list sim_nil) (sim_aName (i := 3) rfl)) (sim_seq (sim_for (sim_iSeq (sim_name (i := 0) rfl)) (sim_aName (i := 4) rfl) (sim_seq (sim_assign sim_cint (sim_aName (i := 5) rfl)) (sim_seq (sim_asgComp1 (D' := D_cells_c2) (m := [none, some 4]) (ts := (some (tOf (pBin opGt (pName 0) (pName 1))))) (by kernel_rfl) (sim_iSeq (sim_item (sim_name (i := 2) rfl) sim_cint)) (sim_aName (i := 0) rfl) (sim_tCmp (sim_name (i := 0) rfl) (sim_name (i := 1) rfl) (fun F O a b u v ha hb => op_gt ha hb)) (sim_name (i := 0) rfl) (sim_aName (i := 6) rfl)) (sim_seq (sim_while (sim_tCmp (sim_name (i := 6) rfl) (sim_list sim_nil) (fun F O a b u v ha hb => op_ne O ha hb)) (sim_seq (sim_assign (sim_bi (by decide) (hF _ (by decide)) (by decide +kernel) (sim_cons (sim_name (i := 6) rfl) sim_nil) (fun F O vs us hr => op_min O rfl vs us hr)) (sim_aName (i := 7) rfl)) (sim_seq (sim_assign (sim_name (i := 4) rfl) (sim_aItem (sim_item (sim_name (i := 2) rfl) (sim_name (i := 5) rfl)) (sim_bm PySem.F.plainAttrs_list PySem.F.slot_list_index PySem.F.type_list_index (sim_item (sim_name (i := 2) rfl) (sim_name (i := 5) rfl)) (sim_arCons (sim_cons (sim_name (i := 7) rfl) sim_nil)) fun F O ov vs u us hu hr => op_index ov vs u us hu hr))) (sim_seq (sim_assign (sim_name (i := 7) rfl) (sim_aName (i := 4) rfl)) (sim_seq (sim_augName (i := 5) rfl sim_cint (fun F O a b u v ha hb => in_add ha hb)) (sim_one (sim_asgComp1 (D' := D_cells_c3) (m := [none, some 4]) (ts := (some (tOf (pBin opGt (pName 0) (pName 1))))) (by kernel_rfl) (sim_iSeq (sim_item (sim_name (i := 2) rfl) (sim_name (i := 5) rfl))) (sim_aName (i := 0) rfl) (sim_tCmp (sim_name (i := 0) rfl) (sim_name (i := 1) rfl) (fun F O a b u v ha hb => op_gt ha hb)) (sim_name (i := 0) rfl) (sim_aName (i := 6) rfl))))))) sim_snil) (sim_seq (sim_expr (sim_bm PySem.F.plainAttrs_list PySem.F.slot_list_append PySem.F.type_list_append (sim_name (i := 3) rfl) (sim_arCons (sim_cons (sim_bin (sim_bin (sim_name (i := 5) rfl) (sim_name (i := 1) rfl) (fun F O a b u v ha hb => op_mul O ha hb)) (sim_bi (by decide) (hF _ (by decide)) (by decide +kernel) (sim_cons (sim_item (sim_name (i := 2) rfl) (sim_name (i := 5) rfl)) sim_nil) (fun F O vs us hr => op_len vs us hr)) (fun F O a b u v ha hb => op_add O ha hb)) sim_nil)) fun F O ov vs u us hu hr => op_append ov vs u us hu hr)) (sim_one (sim_expr (sim_bm PySem.F.plainAttrs_list PySem.F.slot_list_append PySem.F.type_list_append (sim_item (sim_name (i := 2) rfl) (sim_name (i := 5) rfl)) (sim_arCons (sim_cons (sim_name (i := 4) rfl) sim_nil)) fun F O ov vs u us hu hr => op_append ov vs u us hu hr)))))))) (sim_one (sim_ret (sim_name (i := 3) rfl))))))
  · intro us s h _
    match us, h with
    | [a0, a1], _ => exact BindsTo.of_eq (by with_unfolding_all rfl)
theorem ent_law (P : PC) (hK : P.K = KK P.w.params) (hP : POk P) (hF : ∀ x ∈ freeNames, freeName P x) (hS : P.cS = 137) (hN : P.cN = 40) (hE : P.cE = 55) : ∃ fd, fdAt? P.K 179 = some fd ∧ fnOkB P.K fd D_law = true ∧ SimSs P D_law (bodyOf fd) pt_law ∧ ∀ (l : Addr) (s : Shared), BindsTo s fd ⟨[.ref l], []⟩ ((D_law.vars.map (·.1)).zip [.ref l]) := by
  refine ⟨_, (by rw [hK]; with_unfolding_all rfl), (by rw [hK]; kernel_rfl), ?_, fun l s => BindsTo.of_eq (by with_unfolding_all rfl)⟩
  exact (sim_seq (sim_assign (sim_item (sim_bin (sim_name (i := 0) rfl) (sim_list (sim_cons sim_cint sim_nil)) (fun F O a b u v ha hb => op_add O ha hb)) sim_cint) (sim_aName (i := 1) rfl)) (sim_seq (sim_assign (sim_bin sim_cint (sim_bin (sim_name (i := 1) rfl) sim_cint (fun F O a b u v ha hb => op_mod ha hb)) (fun F O a b u v ha hb => op_add O ha hb)) (sim_aName (i := 2) rfl)) (sim_seq (sim_assign (sim_bin sim_cint (sim_bin (sim_bin (sim_name (i := 1) rfl) sim_cint (fun F O a b u v ha hb => op_div ha hb)) sim_cint (fun F O a b u v ha hb => op_mod ha hb)) (fun F O a b u v ha hb => op_add O ha hb)) (sim_aName (i := 3) rfl)) (sim_seq (sim_assign (sim_call (sim_course hK hP hF hS hN hE) (by decide) (by rw [hK]; kernel_rfl) (by rw [hK]; kernel_rfl) (sim_arCons (sim_cons (sim_name (i := 2) rfl) (sim_cons (sim_name (i := 3) rfl) (sim_cons (sim_bin (sim_slice (sim_name (i := 0) rfl) (sim_oSome sim_cint) sim_oNone) (sim_bin (sim_list (sim_cons sim_cint sim_nil)) sim_cint (fun F O a b u v ha hb => op_mul O ha hb)) (fun F O a b u v ha hb => op_add O ha hb)) sim_nil)))) (by decide)) (sim_aName (i := 4) rfl)) (sim_seq (sim_asgComp1 (D' := D_law_c1) (m := [none, some 2, some 3]) (ts := none) (by kernel_rfl) (sim_iSeq (sim_name (i := 4) rfl)) (sim_aName (i := 0) rfl) trivial (sim_bin (sim_bin (sim_bin (sim_bin (sim_name (i := 1) rfl) sim_cint (fun F O a b u v ha hb => op_sub ha hb)) (sim_bin (sim_name (i := 0) rfl) (sim_name (i := 2) rfl) (fun F O a b u v ha hb => op_div ha hb)) (fun F O a b u v ha hb => op_sub ha hb)) (sim_name (i := 2) rfl) (fun F O a b u v ha hb => op_mul O ha hb)) (sim_bin (sim_name (i := 0) rfl) (sim_name (i := 2) rfl) (fun F O a b u v ha hb => op_mod ha hb)) (fun F O a b u v ha hb => op_add O ha hb)) (sim_aName (i := 5) rfl)) (sim_seq (sim_for (sim_iRange (by decide) (hF _ (by decide)) boot_range (sim_cons (sim_bin (sim_bin (sim_name (i := 2) rfl) (sim_name (i := 3) rfl) (fun F O a b u v ha hb => op_mul O ha hb)) sim_cint (fun F O a b u v ha hb => op_add O ha hb)) sim_nil)) (sim_aName (i := 6) rfl) (sim_seq (sim_sif (sim_tCmp (sim_name (i := 6) rfl) sim_cint (fun F O a b u v ha hb => op_gt ha hb)) (sim_one (sim_assign (sim_call (sim_lround hK hP hF hS hN hE) (by decide) (by rw [hK]; kernel_rfl) (by rw [hK]; kernel_rfl) (sim_arCons (sim_cons (sim_name (i := 2) rfl) (sim_cons (sim_name (i := 3) rfl) (sim_cons (sim_name (i := 4) rfl) sim_nil)))) (by decide)) (sim_aName (i := 4) rfl))) sim_snil) (sim_seq (sim_assign (sim_call (sim_cells hK hP hF hS hN hE) (by decide) (by rw [hK]; kernel_rfl) (by rw [hK]; kernel_rfl) (sim_arCons (sim_cons (sim_slice (sim_name (i := 5) rfl) (sim_oSome (sim_name (i := 6) rfl)) sim_oNone) (sim_cons (sim_name (i := 3) rfl) sim_nil))) (by decide)) (sim_aName (i := 7) rfl)) (sim_seq (sim_assign (sim_call (sim_cells hK hP hF hS hN hE) (by decide) (by rw [hK]; kernel_rfl) (by rw [hK]; kernel_rfl) (sim_arCons (sim_cons (sim_rev (sim_comp1 (D' := D_law_c2) (m := [none]) (ts := none) (by kernel_rfl) (sim_iSeq (sim_slice (sim_name (i := 5) rfl) sim_oNone (sim_oSome (sim_name (i := 6) rfl)))) (sim_aName (i := 0) rfl) trivial (sim_un (sim_name (i := 0) rfl) fun F O a u ha => op_neg ha)) (sim_un sim_cint fun F O a u ha => op_neg ha)) (sim_cons (sim_name (i := 3) rfl) sim_nil))) (by decide)) (sim_aName (i := 8) rfl)) (sim_one (sim_sif (sim_tCmp (sim_name (i := 4) rfl) (sim_bin (sim_name (i := 7) rfl) (sim_rev (sim_comp1 (D' := D_law_c3) (m := [none, some 2, some 3]) (ts := none) (by kernel_rfl) (sim_iSeq (sim_name (i := 8) rfl)) (sim_aName (i := 0) rfl) trivial (sim_bin (sim_bin (sim_bin (sim_name (i := 1) rfl) (sim_name (i := 2) rfl) (fun F O a b u v ha hb => op_mul O ha hb)) sim_cint (fun F O a b u v ha hb => op_sub ha hb)) (sim_name (i := 0) rfl) (fun F O a b u v ha hb => op_sub ha hb))) (sim_un sim_cint fun F O a u ha => op_neg ha)) (fun F O a b u v ha hb => op_add O ha hb)) (fun F O a b u v ha hb => op_ne O ha hb)) (sim_one (sim_ret sim_cbool)) sim_snil)))))) (sim_one (sim_ret sim_cbool))))))))
end
section
theorem KA_eq (P : Params) : KA = (KK P).map (·.1) := rfl
theorem left08 : LeftO Challenge.rw_dm0130_08.row.prog vw [Str.ofString "_NodeInfo"] (fun s => xlAt vw [] s && recOk Challenge.rw_dm0130_08.row.records s) (kHook KK KA KA_eq).obs (kHook KK KA KA_eq).val 2504 := by
  intro w
  kernel_rfl
end
section
section
variable {hp : AH} {own : Addr → Prop} {x d n2i : Addr} {rec suc : Int → Addr} {keys : List Int} {cnt : Int → Int} {succ : Int → List Int} {rdy : AV} {np nf : Int}
theorem done8_eq : pt_done8 = (sSeq dnHead (sSeq (sAssign (pUn (opAttrS 0) (pName 0)) (aName 2)) (sFor (iSeq (pName 1)) (aName 3) (sSeq (sIf (tOf (pBin opIsN (pWal (pBm "dict" opGet (pName 2) (lCons (pName 3) lNil)) (aName 4)) pNone)) sDead sNil) (sSeq (sAssign (pUn (opAttrN 1) (pName 4)) (aName 5)) (sSeq (sIf (tOf (pBin opNe (pName 5) (pInt (-1)))) (sIf (tOf (pBin opGe (pName 5) (pInt 0))) (sRaiseV (pName 3)) (sIf (tOf (pBin opEq (pName 5) (pInt (-2)))) sDead sDead)) sNil) (sSeq (sAssign (pInt (-2)) (aAttrN 1 (pName 4))) (sSeq dnInner (sAugS 3 iAdd (pName 0) (pInt 1)))))))))) := rfl
theorem done8_spec {Q : AV → AH → Prop} {E : Ex → AH → Prop} {don out : Int → Bool} {rl : Addr} {R vs ws : List Int} (r : Run hp own x d n2i rec suc keys succ don out rl R) (hnd : vs.Nodup) (ho : ∀ v ∈ vs, out v = true)
    (hw : ws = [] ∨ ∃ u, ws = [u] ∧ u ∈ keys ∧ u.natAbs < 1000000 ∧ don u = false ∧ out u = false)
    (h : ws = [] → ∀ hp' N, Run hp' own x d n2i rec suc keys succ (addB don vs) (subB out vs) rl (R ++ N) → Frm hp own hp' own → Q .none hp')
    (hx : ws ≠ [] → ∀ hp' N, Run hp' own x d n2i rec suc keys succ (addB don vs) (subB out vs) rl (R ++ N) → Frm hp own hp' own → E .value hp') :
    fp_done8 (.ref x :: intsA (vs ++ ws)) Q E hp := by
  have hwl : ws.length ≤ 1 := by
    rcases hw with q | ⟨u, q, _⟩ <;> rw [q] <;> simp
  have hvl : vs.length ≤ keys.length := len_sub hnd fun v hv => (r.ko v (ho v hv)).1
  have hsm := r.small
  refine ⟨by simp, by rw [List.length_cons, List.length_map, List.length_append]; (first | lia | omega), fun t ht => ?_⟩
  have r1 := r.ext (Ext.new (.tup (intsA (vs ++ ws))) ht)
  have F1 : Frm hp own (upd hp t (.tup (intsA (vs ++ ws)))) own := Frm.of_ext (Ext.new _ ht)
  have ht1 := upd_self hp t (.tup (intsA (vs ++ ws)))
  have hto : ¬ own t := fun q => r.S.al t q ht
  show pt_done8 _ _ ⟨_, upd hp t (.tup (intsA (vs ++ ws)))⟩
  rw [done8_eq]
  generalize upd hp t (.tup (intsA (vs ++ ws))) = hp1 at r1 F1 ht1
  unfold dnHead
  dsimp only [pName, pInt, pBool, pNone, pBin, pUn, tOf, tNot, tAnd, tOr, pIf, lNil, lCons, lStar, starOf, pList, pTuple, pTruth, pSlice, sAssign, aName, aTuple, aItem, aAttrS, aAttrN, sAugName, sAugItem, sAugS, sAugN, sNil, sSeq, sIf, sRet, sFlow, sExpr, sFor, sWhile, sTry, sRaise, sDel, sPair, sDead, vNil, vCons, vOf, iSeq, iRange, iVals, pBi, pBm, pMeth, pCall, pNewS, pNewN, pWal, pComp, cTest, cEmit, cFor, cLoop, pDict0, pListRange, pIterNext, pNextCall, opNextCall, opSet0, opAdd, opSub, opMul, opDiv, opMod, opNeg, opEq, opNe, opLt, opGt, opGe, opIsN, opIsNotN, opIn, opNotIn, opItem, opSetItem, opAttrS, opSetS, opAttrN, opSetN, opLen, opSum, opMin2, opMax2, opAppend, opExtend, opClear, opPop, opCount, opGet, opAdd', opTuple, opList, opSorted, opDel, iAdd, AObj.fld, AObj.setFld, setvs, retV, noX, Option.map, Option.getD, ↓reduceIte, Bool.false_eq_true, Bool.not_true, Bool.not_false, List.cons_append, List.nil_append]
  refine ⟨.ref x, rfl, d, _, _, r1.S.hx, r1.S.hd, rfl, ?_⟩
  dsimp only [pName, pInt, pBool, pNone, pBin, pUn, tOf, tNot, tAnd, tOr, pIf, lNil, lCons, lStar, starOf, pList, pTuple, pTruth, pSlice, sAssign, aName, aTuple, aItem, aAttrS, aAttrN, sAugName, sAugItem, sAugS, sAugN, sNil, sSeq, sIf, sRet, sFlow, sExpr, sFor, sWhile, sTry, sRaise, sDel, sPair, sDead, vNil, vCons, vOf, iSeq, iRange, iVals, pBi, pBm, pMeth, pCall, pNewS, pNewN, pWal, pComp, cTest, cEmit, cFor, cLoop, pDict0, pListRange, pIterNext, pNextCall, opNextCall, opSet0, opAdd, opSub, opMul, opDiv, opMod, opNeg, opEq, opNe, opLt, opGt, opGe, opIsN, opIsNotN, opIn, opNotIn, opItem, opSetItem, opAttrS, opSetS, opAttrN, opSetN, opLen, opSum, opMin2, opMax2, opAppend, opExtend, opClear, opPop, opCount, opGet, opAdd', opTuple, opList, opSorted, opDel, iAdd, AObj.fld, AObj.setFld, setvs, retV, noX, Option.map, Option.getD, ↓reduceIte, Bool.false_eq_true, Bool.not_true, Bool.not_false, List.cons_append, List.nil_append]
  refine ⟨.ref x, rfl, d, _, _, r1.S.hx, r1.S.hd, rfl, ?_⟩
  refine ⟨_, rfl, t, rfl, .inr (.inl ⟨_, ht1, ?_⟩)⟩
  refine ⟨fun i σ => i ≤ vs.length ∧ σ.loc 0 = some (.ref x) ∧ σ.loc 2 = some (.ref n2i) ∧ σ.hp t = some (.tup (intsA (vs ++ ws))) ∧ Frm hp own σ.hp own ∧ ∃ N, Run σ.hp own x d n2i rec suc keys succ (addB don (vs.take i)) (subB out (vs.take i)) rl (R ++ N), ?_, ?_⟩
  · refine ⟨Nat.zero_le _, rfl, rfl, ht1, F1, [], ?_⟩
    have e1 : addB don (vs.take 0) = don := by funext k; simp [addB]
    have e2 : subB out (vs.take 0) = out := by funext k; simp [subB]
    rw [e1, e2, List.append_nil]
    exact r1
  · rintro i ⟨l, g⟩ ⟨il, l0, l2, ht', F', N, r'⟩
    dsimp only at l0 l2 ht' F' r'
    refine ⟨ht', ?_⟩
    by_cases hi : i < vs.length
    · have e1 : (intsA (vs ++ ws))[i]? = some (.int vs[i]) := by rw [List.getElem?_map, List.getElem?_append_left hi, List.getElem?_eq_getElem hi]; rfl
      rw [e1]
      generalize hv : vs[i] = v
      have etake : vs.take (i + 1) = vs.take i ++ [v] := by rw [take_next hi, hv]
      have hvt : v ∉ vs.take i := by
        have : (vs.take (i + 1)).Nodup := List.Nodup.sublist (List.take_sublist ..) hnd
        rw [etake, List.nodup_append] at this
        exact fun h => this.2.2 v h v (List.mem_singleton.mpr rfl) rfl
      have hov : subB out (vs.take i) v = true := by
        unfold subB; rw [ho v (hv ▸ List.getElem_mem hi)]; simpa using hvt
      obtain ⟨hvk, hvd, hvi⟩ := r'.ko v hov
      have S' := r'.S
      obtain ⟨ep, en⟩ := S'.hn
      obtain ⟨dv, ev, qv⟩ := S'.hr v hvk
      have hcv : cntOf keys succ (addB don (vs.take i)) (subB out (vs.take i)) v = -1 := by unfold cntOf; rw [hvd, hov]; rfl
      rw [hcv] at ev
      dsimp only [pName, pInt, pBool, pNone, pBin, pUn, tOf, tNot, tAnd, tOr, pIf, lNil, lCons, lStar, starOf, pList, pTuple, pTruth, pSlice, sAssign, aName, aTuple, aItem, aAttrS, aAttrN, sAugName, sAugItem, sAugS, sAugN, sNil, sSeq, sIf, sRet, sFlow, sExpr, sFor, sWhile, sTry, sRaise, sDel, sPair, sDead, vNil, vCons, vOf, iSeq, iRange, iVals, pBi, pBm, pMeth, pCall, pNewS, pNewN, pWal, pComp, cTest, cEmit, cFor, cLoop, pDict0, pListRange, pIterNext, pNextCall, opNextCall, opSet0, opAdd, opSub, opMul, opDiv, opMod, opNeg, opEq, opNe, opLt, opGt, opGe, opIsN, opIsNotN, opIn, opNotIn, opItem, opSetItem, opAttrS, opSetS, opAttrN, opSetN, opLen, opSum, opMin2, opMax2, opAppend, opExtend, opClear, opPop, opCount, opGet, opAdd', opTuple, opList, opSorted, opDel, iAdd, AObj.fld, AObj.setFld, setvs, retV, noX, Option.map, Option.getD, ↓reduceIte, Bool.false_eq_true, Bool.not_true, Bool.not_false, List.cons_append, List.nil_append]
      refine ⟨_, l2, ⟨n2i, _, rfl, en, rfl⟩, _, rfl, _, ep, en, ?_⟩
      rw [find_rec hvk]
      refine ⟨_, rfl, dv, _, _, ev, qv, rfl, _, rfl, ?_⟩
      refine ⟨_, rfl, dv, _, ev, qv, ?_⟩
      have S2 := S'.setc hvk (-2) qv (S'.odd hvk ev)
      have hrl2 := upd_at (o := .rcd dv [some (.int v), some (.int (-2)), some (.ref (suc v))]) (ne_obj r'.hrl ev nofun) r'.hrl
      have ht2 := upd_at (o := .rcd dv [some (.int v), some (.int (-2)), some (.ref (suc v))]) (ne_obj ht' ev nofun) ht'
      have F2 := F'.trans (Frm.set (o := .rcd dv [some (.int v), some (.int (-2)), some (.ref (suc v))]) (S'.orr v hvk))
      have e3 : ([some (AV.int v), some (AV.int (-1)), some (AV.ref (suc v))] ++ List.replicate (1 + 1 - [some (AV.int v), some (AV.int (-1)), some (AV.ref (suc v))].length) none).set 1 (some (.int (-2))) = [some (.int v), some (.int (-2)), some (.ref (suc v))] := rfl
      dsimp only
      rw [e3]
      generalize upd g (rec v) (.rcd dv [some (.int v), some (.int (-2)), some (.ref (suc v))]) = hp2 at S2 hrl2 ht2 F2
      refine dn_inner (don := addB don (vs.take i)) (out := subB out (vs.take i)) (R := R ++ N) hvk hvd hvi r'.sub r'.small ?_ ?_ S2 hrl2 r'.nrl r'.orl l0 l2 rfl ?_
      · exact Nat.lt_of_le_of_lt (len_sub r'.nd fun k hk => ((r'.mem k).mp hk).1) hsm
      · intro k hk
        unfold cntOf
        cases h3 : addB don (vs.take i) k with
        | true => have := (r'.kd k h3).2; (first | lia | omega)
        | false =>
          cases h4 : subB out (vs.take i) k with
          | true => have := (r'.ko k h4).2.2; (first | lia | omega)
          | false => rfl
      · intro l' hp3 N' m0 m1 m2 S3 hrl3 hN hNm F3
        dsimp only [pName, pInt, pBool, pNone, pBin, pUn, tOf, tNot, tAnd, tOr, pIf, lNil, lCons, lStar, starOf, pList, pTuple, pTruth, pSlice, sAssign, aName, aTuple, aItem, aAttrS, aAttrN, sAugName, sAugItem, sAugS, sAugN, sNil, sSeq, sIf, sRet, sFlow, sExpr, sFor, sWhile, sTry, sRaise, sDel, sPair, sDead, vNil, vCons, vOf, iSeq, iRange, iVals, pBi, pBm, pMeth, pCall, pNewS, pNewN, pWal, pComp, cTest, cEmit, cFor, cLoop, pDict0, pListRange, pIterNext, pNextCall, opNextCall, opSet0, opAdd, opSub, opMul, opDiv, opMod, opNeg, opEq, opNe, opLt, opGt, opGe, opIsN, opIsNotN, opIn, opNotIn, opItem, opSetItem, opAttrS, opSetS, opAttrN, opSetN, opLen, opSum, opMin2, opMax2, opAppend, opExtend, opClear, opPop, opCount, opGet, opAdd', opTuple, opList, opSorted, opDel, iAdd, AObj.fld, AObj.setFld, setvs, retV, noX, Option.map, Option.getD, ↓reduceIte, Bool.false_eq_true, Bool.not_true, Bool.not_false, List.cons_append, List.nil_append]
        have S4 := S3.setd (.ref rl) (keys.countP fun k => addB don (vs.take i) k || subB out (vs.take i) k) (keys.countP (addB don (vs.take i)) + 1)
        refine ⟨_, m0, d, _, _, S3.hx, S3.hd, rfl, d, _, S3.hx, S3.hd, ⟨_, _, _, _, rfl⟩, ?_⟩
        have ht3 := (F3 t _ ht2 hto).1
        refine ⟨hi, m0, m2, upd_at (ne_obj ht3 S3.hd nofun) ht3, (F2.trans F3).trans (Frm.set S3.od), N ++ N', ?_⟩
        rw [etake, addB_snoc, subB_snoc, ← List.append_assoc]
        exact run_done r' hov S4 (upd_at (ne_obj hrl3 S3.hd nofun) hrl3) hN hNm
    · rw [List.take_of_length_le (by (first | lia | omega) : vs.length ≤ i)] at r'
      rcases hw with q | ⟨u, q, uk, ub, ud, uo⟩
      · subst q
        have e1 : (intsA (vs ++ []))[i]? = none := by rw [List.append_nil]; simp; (first | lia | omega)
        rw [e1]
        exact h rfl g N r' F'
      · subst q
        have hi2 : i = vs.length := by (first | lia | omega)
        · have e1 : (intsA (vs ++ [u]))[i]? = some (.int u) := by rw [hi2]; simp
          rw [e1]
          have hut : u ∉ vs := fun q => by rw [ho u q] at uo; cases uo
          have hud : addB don vs u = false := by unfold addB; rw [ud]; simpa using hut
          have huo : subB out vs u = false := by unfold subB; rw [uo]; rfl
          have S' := r'.S
          obtain ⟨ep, en⟩ := S'.hn
          obtain ⟨du, eu, qu⟩ := S'.hr u uk
          have hcv : cntOf keys succ (addB don vs) (subB out vs) u = ind keys succ (addB don vs) u := by unfold cntOf; rw [hud, huo]; rfl
          rw [hcv] at eu
          generalize ind keys succ (addB don vs) u = m at eu
          dsimp only [pName, pInt, pBool, pNone, pBin, pUn, tOf, tNot, tAnd, tOr, pIf, lNil, lCons, lStar, starOf, pList, pTuple, pTruth, pSlice, sAssign, aName, aTuple, aItem, aAttrS, aAttrN, sAugName, sAugItem, sAugS, sAugN, sNil, sSeq, sIf, sRet, sFlow, sExpr, sFor, sWhile, sTry, sRaise, sDel, sPair, sDead, vNil, vCons, vOf, iSeq, iRange, iVals, pBi, pBm, pMeth, pCall, pNewS, pNewN, pWal, pComp, cTest, cEmit, cFor, cLoop, pDict0, pListRange, pIterNext, pNextCall, opNextCall, opSet0, opAdd, opSub, opMul, opDiv, opMod, opNeg, opEq, opNe, opLt, opGt, opGe, opIsN, opIsNotN, opIn, opNotIn, opItem, opSetItem, opAttrS, opSetS, opAttrN, opSetN, opLen, opSum, opMin2, opMax2, opAppend, opExtend, opClear, opPop, opCount, opGet, opAdd', opTuple, opList, opSorted, opDel, iAdd, AObj.fld, AObj.setFld, setvs, retV, noX, Option.map, Option.getD, ↓reduceIte, Bool.false_eq_true, Bool.not_true, Bool.not_false, List.cons_append, List.nil_append]
          refine ⟨_, l2, ⟨n2i, _, rfl, en, rfl⟩, _, rfl, _, ep, en, ?_⟩
          rw [find_rec uk]
          refine ⟨_, rfl, du, _, _, eu, qu, rfl, _, rfl, ?_⟩
          have c1 : (!decide ((m : Int) = -1)) = true := by simp
          have c2 : decide ((0 : Int) ≤ m) = true := by simp
          dsimp only
          rw [if_pos c1]
          refine ⟨_, rfl, ?_⟩
          show (if decide ((0 : Int) ≤ m) = true then _ else _)
          rw [if_pos c2]
          exact ⟨_, rfl, u, rfl, ub, hx nofun g N r' F'⟩
end
end
section
section
variable {hb hp w : AH} {X : Addr} {keys Rs : List Int} {succ : Int → List Int} {don out : Int → Bool}
theorem h_done8 {Q : AV → AH → Prop} {E : Ex → AH → Prop} {vs us : List Int} (B : RS w X keys succ don out Rs) (ew : Ext w hp) (hnd : vs.Nodup) (ho : ∀ v ∈ vs, out v = true)
    (hw : us = [] ∨ ∃ u, us = [u] ∧ u ∈ keys ∧ u.natAbs < 1000000 ∧ don u = false ∧ out u = false)
    (k : us = [] → ∀ hp' w' N, RS w' X keys succ (addB don vs) (subB out vs) (Rs ++ N) → Ext w' hp' → Ext (rst hp w) hp' → (∀ a, w' a ≠ none → rst hp w a = none) → Q .none hp')
    (kx : us ≠ [] → ∀ hp' w' N, RS w' X keys succ (addB don vs) (subB out vs) (Rs ++ N) → Ext w' hp' → Ext (rst hp w) hp' → (∀ a, w' a ≠ none → rst hp w a = none) → E .value hp') : fp_done8 (.ref X :: intsA (vs ++ us)) Q E hp := by
  obtain ⟨own, d, n2i, rec, suc, rl, r, b⟩ := B.all ew
  have fin : ∀ hp2 N, Run hp2 own X d n2i rec suc keys succ (addB don vs) (subB out vs) rl (Rs ++ N) → Frm hp own hp2 own → ∃ w', RS w' X keys succ (addB don vs) (subB out vs) (Rs ++ N) ∧ Ext w' hp2 ∧ Ext (rst hp w) hp2 ∧ ∀ a, w' a ≠ none → rst hp w a = none := fun hp2 N r2 F => by
    have B2 : Rn eH (rst hp w) hp2 X keys succ (addB don vs) (subB out vs) (Rs ++ N) := ⟨own, d, n2i, rec, suc, rl, r2, b.frm F r.S.hx⟩
    obtain ⟨w', R, e, dj⟩ := B2.cut
    exact ⟨w', R, e, B2.s, fun a ha => (dj a ha).1⟩
  refine done8_spec r hnd ho hw (fun q hp2 N r2 F => ?_) fun q hp2 N r2 F => ?_
  · obtain ⟨w', R, e, s, dj⟩ := fin hp2 N r2 F
    exact k q hp2 w' N R e s dj
  · obtain ⟨w', R, e, s, dj⟩ := fin hp2 N r2 F
    exact kx q hp2 w' N R e s dj
end
noncomputable def nd (w : Nat) (p : Int) : List Int := (if 0 < p % (w : Int) then [p - 1] else []) ++ (if (w : Int) ≤ p then [p - (w : Int)] else [])
theorem nd_len (w : Nat) (p : Int) : (nd w p).length ≤ 2 := by
  unfold nd
  rw [List.length_append]
  split <;> split <;> simp
theorem nd_lt {w : Nat} {p q : Int} (hw : 0 < w) (h : q ∈ nd w p) (hp : 0 ≤ p) : 0 ≤ q ∧ q < p := by
  unfold nd at h
  rcases List.mem_append.mp h with h | h
  · split at h
    · rename_i c
      rw [List.mem_singleton.mp h]
      have : p ≠ 0 := fun e => by rw [e] at c; simp at c
      (first | lia | omega)
    · cases h
  · split at h
    · rw [List.mem_singleton.mp h]; (first | lia | omega)
    · cases h
section
variable {hb hp w : AH} {ws : List AH} {lo : Loc} {Q : Fl → St → Prop} {E : Ex → St → Prop} {rest : SP} {iw ip jn : Nat} {wd : Nat} {p : Int}
theorem nd_spec (S : Sep hb ws hp) (lw : lo iw = some (.int wd)) (lp : lo ip = some (.int p)) (hw : 0 < wd) (n1 : iw ≠ jn) (n2 : ip ≠ jn)
    (k : ∀ hb' hp' a, Ext hb hb' → Sep hb' ws hp' → hb' a = some (.list (intsA (nd wd p))) → rest Q E ⟨setv lo jn (.ref a), hp'⟩) :
    (sSeq (sAssign (pList lNil) (aName jn)) (sSeq (sIf (tOf (pBin opGt (pBin opMod (pName ip) (pName iw)) (pInt 0))) (sExpr (pBm "list" opAppend (pName jn) (lCons (pBin opSub (pName ip) (pInt 1)) lNil))) sNil) (sSeq (sIf (tOf (pBin opGe (pName ip) (pName iw))) (sExpr (pBm "list" opAppend (pName jn) (lCons (pBin opSub (pName ip) (pName iw)) lNil))) sNil) rest))) Q E ⟨lo, hp⟩ := by
  refine S_nil S fun hp1 a S1 => ?_
  have lw' : setv lo jn (.ref a) iw = some (.int wd) := (setv_ne _ _ n1).trans lw
  have lp' : setv lo jn (.ref a) ip = some (.int p) := (setv_ne _ _ n2).trans lp
  have lj : setv lo jn (.ref a) jn = some (.ref a) := setv_self ..
  have key : ∀ hp2 ns, Sep hb (LH a ns :: ws) hp2 → ns = (if 0 < p % (wd : Int) then [p - 1] else []) → (sSeq (sIf (tOf (pBin opGe (pName ip) (pName iw))) (sExpr (pBm "list" opAppend (pName jn) (lCons (pBin opSub (pName ip) (pName iw)) lNil))) sNil) rest) Q E ⟨setv lo jn (.ref a), hp2⟩ := by
    intro hp2 ns S2 e
    have fin : ∀ hp3 ms, Sep hb (LH a ms :: ws) hp3 → ms = nd wd p → rest Q E ⟨setv lo jn (.ref a), hp3⟩ := fun hp3 ms S3 e3 => by
      obtain ⟨S4, e4, e5⟩ := S3.fix
      exact k _ _ a e4 S4 (by rw [← e3]; exact e5 _ _ lh_self)
    refine s_next (S_if S2 (zt_bool (z_ge (z_nameI lp') (z_nameI lw'))) (fun hc hp3 S3 => ?_) fun hc hp3 S3 => ?_)
    · refine S_append S3 lj ?_ (z_sub (z_nameI lp') (z_nameI lw')) fun hp4 S4 => fin _ _ S4 ?_
      · rw [e]; split <;> simp
      · unfold nd
        rw [e, if_pos (by simpa using hc : (wd : Int) ≤ p)]
    · refine fin hp3 ns S3 ?_
      unfold nd
      rw [e, if_neg (by simpa using hc : ¬ (wd : Int) ≤ p), List.append_nil]
  refine s_next (S_if S1 (zt_bool (z_gt (z_mod (z_nameI lp') (z_nameI lw') (by (first | lia | omega))) z_int)) (fun hc hp3 S3 => ?_) fun hc hp3 S3 => ?_)
  · refine S_append S3 lj (by decide) (z_sub (z_nameI lp') z_int) fun hp4 S4 => key _ _ S4 ?_
    rw [if_pos (by simpa using hc : 0 < p % (wd : Int))]; rfl
  · refine key hp3 [] S3 ?_
    rw [if_neg (by simpa using hc : ¬ 0 < p % (wd : Int))]
theorem zs_rangeD {p q r : EP} {lo : Loc} {n : Nat} (h1 : Z p VI ((n : Int) - 1) lo hb) (h2 : Z q VI (-1) lo hb) (h3 : Z r VI (-1) lo hb) (hn : n ≤ 1000) : ZS (iRange (lCons p (lCons q (lCons r lNil)))) VI ((keysN n).map fun i => (n : Int) - 1 - i) lo hb := fun hp s Q E k =>
  h1 hp s _ _ fun hb1 hp1 u1 g1 hu1 => (h2.ext g1.b) hp1 g1.s _ _ fun hb2 hp2 u2 g2 hu2 => (h3.ext (g1.b.trans g2.b)) hp2 g2.s _ _ fun hb3 hp3 u3 g3 hu3 => by
    cases hu1
    cases hu2
    cases hu3
    refine ⟨(keysN n).map fun i => (n : Int) - 1 - i, ?_, k _ _ _ _ (g1.trans (g2.trans g3)) (All2.ints.mpr rfl) fun _ _ => trivial⟩
    show (if _ then some (rangeL ((n : Int) - 1) (-1) _) else none) = _
    rw [if_pos (by (first | lia | omega))]
    have e : ((n : Int) - 1 - -1).toNat = n := by (first | lia | omega)
    rw [e]
    unfold rangeL keysN
    rw [List.map_map]
    refine congrArg some (List.map_congr_left fun i _ => ?_)
    show (n : Int) - 1 + (i : Int) * (-1) = (n : Int) - 1 - i
    (first | lia | omega)
structure FTd (wd N i : Nat) (w : AH) (X : Addr) (keys : List Int) (st : List (Int × Int)) : Prop where
  B : BH w X keys st
  a : ∀ k ∈ keys, 0 ≤ k ∧ k < N
  c : ∀ k : Int, (N : Int) - i ≤ k → k < N → k ∈ keys
  m : ∀ v k, (v, k) ∈ st ↔ ((N : Int) - i ≤ k ∧ k < N) ∧ v ∈ nd wd k
  l : st.length ≤ 2 * i
theorem len_keys {N : Nat} {keys : List Int} (hn : keys.Nodup) (h : ∀ k ∈ keys, 0 ≤ k ∧ k < N) : keys.length ≤ N := by
  rw [← len_keysN N]
  exact len_sub hn fun k hk => mem_keysN.mpr (h k hk)
noncomputable def fdAdd : SP := (sExpr (pMeth (pName 2) fp_add (lCons (pName 3) (lStar (pName 4)))))
theorem fd_add {N i : Nat} {X an : Addr} {keys : List Int} {st : List (Int × Int)} (S : Sep hb (w :: ws) hp) (F : FTd wd N i w X keys st) (hw : 0 < wd) (hi : i < N) (hN : N ≤ 49) (ha : hb an = some (.list (intsA (nd wd ((N : Int) - 1 - i))))) (l2 : lo 2 = some (.ref X)) (l3 : lo 3 = some (.int ((N : Int) - 1 - i))) (l4 : lo 4 = some (.ref an))
    (k : ∀ hp' w' keys' st', Sep hb (w' :: ws) hp' → FTd wd N (i + 1) w' X keys' st' → Q .next ⟨lo, hp'⟩) : fdAdd Q E ⟨lo, hp⟩ := by
  have hln := nd_len wd ((N : Int) - 1 - i)
  have hl := F.l
  have hk := len_keys F.B.nodup F.a
  refine ⟨_, l2, X, F.B.inst S.head, _, l3, ?_⟩
  refine ⟨_, l4, an, _, rfl, .inl (S.s _ _ ha), ?_⟩
  refine h_add F.B S.head (by (first | lia | omega)) (by (first | lia | omega)) fun hp4 w4 B4 ew4 e4 dj4 => k _ w4 _ _ (S.step e4 ew4 dj4) ⟨B4, fun j hj => ?_, fun j h1 h2 => ?_, fun v j => ?_, ?_⟩
  · rw [mem_addKeys, mem_insK] at hj
    rcases hj with (hj | rfl) | hj
    · exact F.a j hj
    · (first | lia | omega)
    · have := nd_lt hw hj (by (first | lia | omega)); (first | lia | omega)
  · rw [mem_addKeys, mem_insK]
    by_cases q : j = (N : Int) - 1 - i
    · exact .inl (.inr q)
    · exact .inl (.inl (F.c j (by (first | lia | omega)) h2))
  · rw [List.mem_append, F.m, List.mem_map]
    constructor
    · rintro (⟨h1, h2⟩ | ⟨p, hp, e⟩)
      · exact ⟨⟨by (first | lia | omega), h1.2⟩, h2⟩
      · obtain ⟨rfl, rfl⟩ := Prod.mk.inj e
        exact ⟨⟨by (first | lia | omega), by (first | lia | omega)⟩, hp⟩
    · rintro ⟨h1, h2⟩
      by_cases q : j = (N : Int) - 1 - i
      · subst q; exact .inr ⟨v, h2, rfl⟩
      · exact .inl ⟨⟨by (first | lia | omega), h1.2⟩, h2⟩
  · rw [List.length_append, List.length_map]; (first | lia | omega)
end
section
theorem nd_pc {w i j : Nat} (hj : j < w) {v : Int} : v ∈ nd w (pc w i j) ↔ (0 < j ∧ v = pc w i (j - 1)) ∨ (0 < i ∧ v = pc w (i - 1) j) := by
  unfold nd
  have e1 : (pc w i j) % (w : Int) = j := by
    unfold pc
    rw [← Int.natCast_emod, Nat.mul_comm, Nat.mul_add_mod, Nat.mod_eq_of_lt hj]
  rw [e1, List.mem_append]
  have e2 : (w : Int) ≤ pc w i j ↔ 0 < i := by
    unfold pc
    rw [Int.ofNat_le]
    constructor
    · intro q
      rcases Nat.eq_zero_or_pos i with r | r
      · rw [r] at q; (first | lia | omega)
      · exact r
    · intro q
      have : 1 * w ≤ i * w := Nat.mul_le_mul_right w q
      (first | lia | omega)
  refine or_congr ?_ ?_
  · by_cases q : 0 < j
    · rw [if_pos (by (first | lia | omega)), List.mem_singleton]
      have : pc w i j - 1 = pc w i (j - 1) := by unfold pc; (first | lia | omega)
      rw [this]
      exact ⟨fun r => ⟨q, r⟩, fun r => r.2⟩
    · rw [if_neg (by (first | lia | omega))]
      exact ⟨nofun, fun r => absurd r.1 q⟩
  · by_cases q : 0 < i
    · rw [if_pos (e2.mpr q), List.mem_singleton]
      have : pc w i j - w = pc w (i - 1) j := by
        unfold pc
        obtain ⟨i', rfl⟩ : ∃ i', i = i' + 1 := ⟨i - 1, by (first | lia | omega)⟩
        rw [Nat.succ_mul]
        simp only [Nat.add_sub_cancel]
        (first | lia | omega)
      rw [this]
      exact ⟨fun r => ⟨q, r⟩, fun r => r.2⟩
    · rw [if_neg (fun r => q (e2.mp r))]
      exact ⟨nofun, fun r => absurd r.1 q⟩
structure Fld (h w : Nat) (keys : List Int) (succ : Int → List Int) : Prop where
  keys : ∀ k, k ∈ keys ↔ ∃ i j, i < h ∧ j < w ∧ k = pc w i j
  succ : ∀ v i j, i < h → j < w → (pc w i j ∈ succ v ↔ (0 < j ∧ v = pc w i (j - 1)) ∨ (0 < i ∧ v = pc w (i - 1) j))
theorem key_pc {h w : Nat} (hw : 0 < w) {p : Int} (h0 : 0 ≤ p) (hp : p < (h * w : Nat)) : ∃ i j, i < h ∧ j < w ∧ p = pc w i j := by
  obtain ⟨n, rfl⟩ := Int.eq_ofNat_of_zero_le h0
  refine ⟨n / w, n % w, ?_, Nat.mod_lt _ hw, ?_⟩
  · exact (Nat.div_lt_iff_lt_mul hw).mpr (Int.ofNat_lt.mp hp)
  · unfold pc
    rw [Nat.mul_comm, Nat.div_add_mod]
noncomputable def fdPlace : SP := (sSeq (sAssign (pList lNil) (aName 4)) (sSeq (sIf (tOf (pBin opGt (pBin opMod (pName 3) (pName 1)) (pInt 0))) (sExpr (pBm "list" opAppend (pName 4) (lCons (pBin opSub (pName 3) (pInt 1)) lNil))) sNil) (sSeq (sIf (tOf (pBin opGe (pName 3) (pName 1))) (sExpr (pBm "list" opAppend (pName 4) (lCons (pBin opSub (pName 3) (pName 1)) lNil))) sNil) fdAdd)))
theorem field_eq : pt_field = (sSeq (sAssign (pNewS fp_sorter lNil) (aName 2)) (sSeq (sFor (iRange (lCons (pBin opSub (pBin opMul (pName 0) (pName 1)) (pInt 1)) (lCons (pUn opNeg (pInt 1)) (lCons (pUn opNeg (pInt 1)) lNil)))) (aName 3) fdPlace) (sSeq (sExpr (pMeth (pName 2) fp_prepare lNil)) (sRet (pName 2))))) := rfl
theorem field_spec {hp : AH} {Q : AV → AH → Prop} {E : Ex → AH → Prop} {h wd : Nat} (hw : 0 < wd) (hN : h * wd ≤ 49)
    (k : ∀ hp' w X keys succ Rs, RS w X keys succ ffB ffB Rs → Fld h wd keys succ → Ext hp hp' → Ext w hp' → (∀ a, w a ≠ none → hp a = none) → Q (.ref X) hp') : fp_field [.int h, .int wd] Q E hp := by
  refine ⟨rfl, ?_⟩
  refine (fun (H : ∀ lo : Loc, lo 0 = some (.int (h : Int)) → lo 1 = some (.int (wd : Int)) → pt_field (fun fl σ => Q (retV fl) σ.hp) (fun ex σ => E ex σ.hp) ⟨lo, hp⟩) => H _ rfl rfl) fun lo l0 l1 => ?_
  rw [field_eq]
  have S0 : Sep hp [] hp := ⟨Ext.refl _, nofun, nofun, List.Pairwise.nil⟩
  dsimp only [sSeq, sAssign]
  refine h_new fun hp1 w X B e1 ew dj => ?_
  have S1 := S0.push e1 ew dj
  have hmul : (h : Int) * (wd : Int) = ((h * wd : Nat) : Int) := (Int.natCast_mul ..).symm
  have hh : h ≤ 49 := Nat.le_trans (Nat.le_mul_of_pos_right h hw) hN
  have F0 : FTd wd (h * wd) 0 w X [] [] := ⟨B, nofun, fun k h1 h2 => by (first | lia | omega), fun v k => ⟨nofun, fun q => by (first | lia | omega)⟩, Nat.le_refl _⟩
  have m0 : setv lo 2 (.ref X) 0 = some (.int (h : Int)) := l0
  have m1 : setv lo 2 (.ref X) 1 = some (.int (wd : Int)) := l1
  have m2 : setv lo 2 (.ref X) 2 = some (.ref X) := rfl
  refine s_next (B := sSeq (sExpr (pMeth (pName 2) fp_prepare lNil)) (sRet (pName 2))) (S_for S1 (zs_rangeD (n := h * wd) (z_cast (z_sub (z_mul (z_nameI m0) (z_nameI m1) (.inl (by (first | lia | omega)))) z_int) (by rw [hmul])) (z_neg z_int) (z_neg z_int) (by (first | lia | omega))) (fun i lo2 hb2 hp2 => (∀ j, j < 3 → lo2 j = setv lo 2 (.ref X) j) ∧ ∃ w2 keys2 st2, Sep hb2 [w2] hp2 ∧ FTd wd (h * wd) i w2 X keys2 st2) (fun hb' hp' e S' => ⟨fun _ _ => rfl, w, [], [], S', F0⟩) (fun i lo2 hb2 hp2 q => by obtain ⟨_, _, _, _, S2, _⟩ := q; exact S2.s) ?_ ?_)
  · rintro i x v lo2 hb2 hp2 P hi e2 rfl ⟨f, w2, keys2, st2, S2, F2⟩ KK
    obtain ⟨hlt, _⟩ := List.getElem?_eq_some_iff.mp hi
    rw [List.length_map, len_keysN] at hlt
    rw [List.getElem?_map, get_keysN hlt] at hi
    cases hi
    refine nd_spec (lo := setv lo2 3 (.int ((h * wd : Nat) - 1 - i))) S2 ((setv_ne _ _ (by decide)).trans ((f 1 (by decide)).trans m1)) rfl hw (by decide) (by decide) fun hb1 hp1 an e1 S1 ha => ?_
    exact fd_add S1 F2 hw hlt hN ha ((setv_ne _ _ (by decide)).trans ((setv_ne _ _ (by decide)).trans ((f 2 (by decide)).trans m2))) rfl rfl fun hp' w' keys' st' S' F' => KK.n e1 ⟨fun j hj => (setv_ne _ _ (by (first | lia | omega))).trans ((setv_ne _ _ (by (first | lia | omega))).trans (f j hj)), w', keys', st', S', F'⟩
  · rintro lo2 hb2 hp2 e2 ⟨f, w2, keys2, st2, S2, F2⟩
    rw [List.length_map, len_keysN] at F2
    have l2 := (f 2 (by decide)).trans m2
    have hkey : ∀ k, k ∈ keys2 ↔ 0 ≤ k ∧ k < ((h * wd : Nat) : Int) := fun k => ⟨F2.a k, fun q => F2.c k (by (first | lia | omega)) q.2⟩
    have hst : ∀ v k, (v, k) ∈ st2 ↔ (0 ≤ k ∧ k < ((h * wd : Nat) : Int)) ∧ v ∈ nd wd k := fun v k => (F2.m v k).trans (and_congr (by (first | lia | omega)) Iff.rfl)
    have hin : ∀ p ∈ st2, p.1 ∈ keys2 ∧ p.2 ∈ keys2 := fun p hp => by
      obtain ⟨h1, h2⟩ := (hst p.1 p.2).mp hp
      have := nd_lt hw h2 h1.1
      exact ⟨(hkey _).mpr (by (first | lia | omega)), (hkey _).mpr h1⟩
    have hlk := len_keys F2.B.nodup F2.a
    refine ⟨_, l2, X, F2.B.inst S2.head, ?_⟩
    refine h_prep F2.B S2.head hin (by (first | lia | omega)) (fun hp3 w3 Rs R3 ew3 e3 dj3 _ => ?_) fun hp3 w3 Rs R3 ew3 e3 dj3 ⟨j, hj, t⟩ => ?_
    · have S3 := S2.step e3 ew3 dj3
      refine ⟨_, l2, k hp3 w3 X keys2 (succS st2) Rs R3 ⟨fun k => ?_, fun v i j hi hj => ?_⟩ (e2.trans S3.s) S3.head fun a ha => e2.none (S3.b _ (List.mem_cons_self ..) a ha)⟩
      · rw [hkey]
        refine ⟨fun q => key_pc hw q.1 q.2, ?_⟩
        rintro ⟨i, j, hi, hj, rfl⟩
        exact ⟨Int.natCast_nonneg _, Int.ofNat_lt.mpr (pc_lt hi hj)⟩
      · rw [mem_succS, hst, nd_pc hj]
        exact ⟨fun q => q.2, fun q => ⟨⟨Int.natCast_nonneg _, Int.ofNat_lt.mpr (pc_lt hi hj)⟩, q⟩⟩
    · exfalso
      refine absurd (no_tc (r := fun k => (49 - k).toNat) (fun p hp => ?_) t) (Nat.lt_irrefl _)
      obtain ⟨h1, h2⟩ := (hst p.1 p.2).mp hp
      have := nd_lt hw h2 h1.1
      (first | lia | omega)
end
end
section
theorem Sep.perm {hb hp : AH} {ws ws' : List AH} (S : Sep hb ws hp) (p : ws'.Perm ws) : Sep hb ws' hp :=
  ⟨S.s, fun w hw => S.e w (p.mem_iff.mp hw), fun w hw => S.b w (p.mem_iff.mp hw), (p.pairwise_iff fun h => Dj.symm h).mpr S.p⟩
theorem Sep.begin {hb hp : AH} (s : Ext hb hp) : Sep hb [rst hp hb] hp :=
  ⟨s, fun w hw => by rw [List.mem_singleton.mp hw]; exact rst_ext, fun w hw a ha => by
    rw [List.mem_singleton.mp hw] at ha
    cases q : hb a with
    | none => rfl
    | some o => exact absurd (rst_out (by rw [q]; nofun)) ha, List.pairwise_singleton ..⟩
theorem Sep.gr_end {hb hp hb' hp' : AH} {ws : List AH} (S : Sep hb' ws hp') (s : Ext hb hp) (hm : rst hp hb ∈ ws) (e : Ext hb hb') : Gr hb hp hb' hp' := by
  refine ⟨e, fun a o q => ?_, S.s, fun a q1 q2 => S.b _ hm a (by rw [rst_in q1]; exact q2)⟩
  cases w : hb a with
  | none => exact S.e _ hm a o (by rw [rst_in w]; exact q)
  | some o' =>
    have := s _ _ w
    rw [q] at this
    cases this
    exact S.s _ _ (e _ _ w)
section
variable {q : EP} {lo : Loc} {hb hp w : AH} {ws : List AH} {i j : Nat} {l X : Addr} {ns ms keys Rs : List Int} {y : Int} {succ : Int → List Int} {don out : Int → Bool} {Q : Fl → St → Prop} {E : Ex → St → Prop} {rest : SP}
theorem S_sortReady (S : Sep hb (w :: ws) hp) (R : RS w X keys succ don out Rs) (li : lo i = some (.ref X)) (hl : Rs.length < 64)
    (k : ∀ hb' hp' w' a W, Ext hb hb' → Sep hb' (LH a W :: w' :: ws) hp' → RS w' X keys succ don (fun k => out k || decide (k ∈ Rs)) [] → W.Perm Rs → rest Q E ⟨setv lo j (.ref a), hp'⟩) : (sSeq (sAssign (pBi opSorted (lCons (pMeth (pName i) fp_get_ready lNil) lNil)) (aName j)) rest) Q E ⟨lo, hp⟩ := by
  refine ⟨_, li, X, R.inst S.head, ?_⟩
  dsimp only [lNil]
  refine h_ready R S.head fun hp1 w1 t zt R1 ew1 e1 ht dj1 => ?_
  have S1 := S.stepT e1 ew1 zt ht dj1
  exact ⟨_, .inr ht, hl, fun a W za hW _ => k _ _ w1 a W (Ext.new _ (S.s.none zt)) (S1.newL (vs := intsA W) za) R1 hW⟩
theorem S_sortMore (S : Sep hb (w :: LH l ns :: ws) hp) (R : RS w X keys succ don out Rs) (li : lo i = some (.ref X)) (lj : lo j = some (.ref l)) (hl : ns.length + Rs.length < 64)
    (k : ∀ hb' hp' w' a W, Ext hb hb' → Sep hb' (LH a W :: w' :: LH l ns :: ws) hp' → RS w' X keys succ don (fun k => out k || decide (k ∈ Rs)) [] → W.Perm (ns ++ Rs) → Q .next ⟨setv lo j (.ref a), hp'⟩) : (sAssign (pBi opSorted (lCons (pBin opAdd (pName j) (pBi opList (lCons (pMeth (pName i) fp_get_ready lNil) lNil))) lNil)) (aName j)) Q E ⟨lo, hp⟩ := by
  refine ⟨_, lj, _, li, X, R.inst S.head, ?_⟩
  dsimp only [lNil]
  refine h_ready R S.head fun hp1 w1 t zt R1 ew1 e1 ht dj1 => ?_
  have S1 := S.stepT e1 ew1 zt ht dj1
  refine ⟨_, .inr ht, fun b zb => ?_⟩
  have S2 := S1.newL (vs := intsA Rs) zb
  have hl1 := S2.e (LH l ns) (by simp) _ _ lh_self
  refine ⟨_, _, lst_of hl1, lst_of S2.atL, by rw [List.length_map, List.length_map]; (first | lia | omega), fun c zc => ?_⟩
  have e0 : intsA ns ++ intsA Rs = intsA (ns ++ Rs) := (List.map_append ..).symm
  rw [e0]
  have S3 := S2.newL (vs := intsA (ns ++ Rs)) zc
  refine ⟨_, .inl (lst_of S3.atL), by rw [List.length_append]; (first | lia | omega), fun a W za hW _ => ?_⟩
  have S5 : Sep (upd hb t (.tup (intsA Rs))) (LH a W :: w1 :: LH l ns :: ws) (upd (upd (upd hp1 b (.list (intsA Rs))) c (.list (intsA (ns ++ Rs)))) a (.list (intsA W))) := S3.drop.drop.newL za
  exact k _ _ w1 a W (Ext.new _ (S.s.none zt)) S5 R1 hW
theorem intsA_erase : ∀ (ns : List Int) (i : Nat), (intsA ns).eraseIdx i = intsA (ns.eraseIdx i)
  | [], _ => rfl
  | _ :: _, 0 => rfl
  | n :: ns, i + 1 => congrArg (AV.int n :: ·) (intsA_erase ns i)
theorem S_pop (S : Sep hb (LH l ns :: ws) hp) (hi : lo i = some (.ref l)) (hq : Z q VI y lo (kn hb (LH l ns :: ws))) (h0 : 0 ≤ y) (h1 : y < ns.length) (k : ∀ hp', Sep hb (LH l (ns.eraseIdx y.toNat) :: ws) hp' → rest Q E ⟨setv lo j (.int (hgt ns y)), hp'⟩) : (sSeq (sAssign (pBm "list" opPop (pName i) (lCons q lNil)) (aName j)) rest) Q E ⟨lo, hp⟩ :=
  ⟨_, hi, ⟨l, _, rfl, S.atL, rfl⟩, hq hp S.kn.1 _ _ fun hb2 hp2 v g hv => by
    cases hv
    have S2 := S.ext g.e
    refine ⟨_, _, S2.atL, h0, by rw [List.getElem?_map, hgt_get h0 h1]; rfl, ?_⟩
    dsimp only
    rw [intsA_erase]
    exact k _ (S2.setL (us := intsA (ns.eraseIdx y.toNat)))⟩
theorem S_done8 {v : Int} (S : Sep hb (w :: ws) hp) (R : RS w X keys succ don out Rs) (li : lo i = some (.ref X)) (lj : lo j = some (.int v)) (ho : out v = true)
    (k : ∀ hp' w' N, Sep hb (w' :: ws) hp' → RS w' X keys succ (addB don [v]) (subB out [v]) (Rs ++ N) → Q .next ⟨lo, hp'⟩) : (sExpr (pMeth (pName i) fp_done8 (lCons (pName j) lNil))) Q E ⟨lo, hp⟩ := by
  refine ⟨_, li, X, R.inst S.head, _, lj, ?_⟩
  exact h_done8 (vs := [v]) (us := []) R S.head (by simp) (fun u hu => by rw [List.mem_singleton.mp hu]; exact ho) (.inl rfl) (fun _ hp3 w3 N R3 ew3 e3 dj3 => k hp3 w3 N (S.step e3 ew3 dj3) R3) fun h => absurd rfl h
end
structure Fs (h wd : Nat) (keys : List Int) (succ : Int → List Int) (don out : Int → Bool) (D : Nat → Nat) : Prop where
  F : Fld h wd keys succ
  B : Bx h wd D
  d : ∀ i j, i < h → j < wd → (don (pc wd i j) = true ↔ j < D i)
section
variable {h wd : Nat} {w : AH} {X : Addr} {keys Rs : List Int} {succ : Int → List Int} {don out : Int → Bool} {D : Nat → Nat}
theorem Bx.inc {a : Nat} (B : Bx h wd D) (ha : a < h) (hc : D a < wd) (hu : 0 < a → D a < D (a - 1)) : Bx h wd (inc D a) := by
  refine ⟨B.ant.inc fun i e => ?_, ?_, ?_⟩
  · have := hu (by (first | lia | omega))
    rwa [show a - 1 = i from by (first | lia | omega)] at this
  · unfold Mine.inc
    split
    · rename_i q; rw [← q] at hc; exact hc
    · exact B.le
  · rw [inc_ne (by (first | lia | omega))]; exact B.z
theorem Fs.needs (F : Fs h wd keys succ don out D) {i j : Nat} (hi : i < h) (hj : j < wd) : (∀ v ∈ keys, pc wd i j ∈ succ v → don v = true) ↔ j ≤ D i ∧ (0 < i → j < D (i - 1)) := by
  constructor
  · intro H
    refine ⟨?_, fun q => ?_⟩
    · rcases Nat.eq_zero_or_pos j with r | r
      · (first | lia | omega)
      · have := H (pc wd i (j - 1)) ((F.F.keys _).mpr ⟨i, j - 1, hi, by (first | lia | omega), rfl⟩) ((F.F.succ _ i j hi hj).mpr (.inl ⟨r, rfl⟩))
        have := (F.d i (j - 1) hi (by (first | lia | omega))).mp this
        (first | lia | omega)
    · have := H (pc wd (i - 1) j) ((F.F.keys _).mpr ⟨i - 1, j, by (first | lia | omega), hj, rfl⟩) ((F.F.succ _ i j hi hj).mpr (.inr ⟨q, rfl⟩))
      exact (F.d (i - 1) j (by (first | lia | omega)) hj).mp this
  · rintro ⟨h1, h2⟩ v hv hs
    rcases (F.F.succ v i j hi hj).mp hs with ⟨q, rfl⟩ | ⟨q, rfl⟩
    · exact (F.d i (j - 1) hi (by (first | lia | omega))).mpr (by (first | lia | omega))
    · exact (F.d (i - 1) j (by (first | lia | omega)) hj).mpr (h2 q)
theorem Fs.isOut (F : Fs h wd keys succ don out D) (R : RS w X keys succ don out []) {i j : Nat} (hi : i < h) (hj : j < wd) : out (pc wd i j) = true ↔ j = D i ∧ Bx h wd (inc D i) := by
  constructor
  · intro H
    obtain ⟨h1, h2, h3⟩ := R.isOut H
    obtain ⟨h4, h5⟩ := (F.needs hi hj).mp h3
    have : ¬ j < D i := fun q => by rw [(F.d i j hi hj).mpr q] at h2; cases h2
    obtain rfl : j = D i := by (first | lia | omega)
    exact ⟨rfl, F.B.inc hi hj h5⟩
  · rintro ⟨rfl, B⟩
    cases e : out (pc wd i (D i)) with
    | true => rfl
    | false =>
      have hd : don (pc wd i (D i)) = false := by
        cases e : don (pc wd i (D i)) with
        | false => rfl
        | true => have := (F.d i (D i) hi hj).mp e; (first | lia | omega)
      have : pc wd i (D i) ∈ ([] : List Int) := R.mem.mpr ⟨(F.F.keys _).mpr ⟨i, D i, hi, hj, rfl⟩, hd, e, (F.needs hi hj).mpr ⟨Nat.le_refl _, fun q => B.ant.up (by (first | lia | omega))⟩⟩
      cases this
theorem Fs.out_key (F : Fs h wd keys succ don out D) (R : RS w X keys succ don out []) {k : Int} (H : out k = true) : ∃ a, k = pc wd a (D a) ∧ a < h ∧ D a < wd ∧ Bx h wd (inc D a) := by
  obtain ⟨i, j, hi, hj, rfl⟩ := (F.F.keys k).mp (R.isOut H).1
  obtain ⟨rfl, B⟩ := (F.isOut R hi hj).mp H
  exact ⟨i, rfl, hi, hj, B⟩
theorem Fs.done {a : Nat} {out' : Int → Bool} (F : Fs h wd keys succ don out D) (B : Bx h wd (inc D a)) : Fs h wd keys succ (addB don [pc wd a (D a)]) out' (inc D a) := by
  refine ⟨F.F, B, fun i j hi hj => ?_⟩
  unfold addB
  rw [Bool.or_eq_true, F.d i j hi hj, decide_eq_true_eq, List.mem_singleton]
  by_cases c : i = a
  · subst c
    rw [inc_self]
    constructor
    · rintro (q | q)
      · (first | lia | omega)
      · have := (pc_inj hj B.col q).2; (first | lia | omega)
    · intro q
      by_cases d : j = D i
      · rw [d]; exact .inr rfl
      · exact .inl (by (first | lia | omega))
  · rw [inc_ne c]
    refine ⟨fun q => q.elim id fun q => absurd (pc_inj hj B.col q).1 c, .inl⟩
theorem Fs.re {out' : Int → Bool} (F : Fs h wd keys succ don out D) : Fs h wd keys succ don out' D := ⟨F.F, F.B, F.d⟩
theorem Fs.full (F : Fs h wd keys succ don out D) (R : RS w X keys succ don out []) (H : ∀ k, out k = false) : D = full h wd := by
  have key : ∀ n, n < h → D n = wd := fun n => by
    induction n with
    | zero =>
      intro hn
      have h1 := F.B.all 0
      refine Classical.byContradiction fun q => ?_
      have := (F.isOut R (i := 0) (j := D 0) hn (by (first | lia | omega))).mpr ⟨rfl, F.B.inc hn (by (first | lia | omega)) fun q => by (first | lia | omega)⟩
      rw [H] at this; cases this
    | succ n ih =>
      intro hn
      have h0 := ih (by (first | lia | omega))
      have h1 := F.B.all (n + 1)
      refine Classical.byContradiction fun q => ?_
      have := (F.isOut R (i := n + 1) (j := D (n + 1)) hn (by (first | lia | omega))).mpr ⟨rfl, F.B.inc hn (by (first | lia | omega)) fun _ => by rw [show n + 1 - 1 = n from rfl, h0]; (first | lia | omega)⟩
      rw [H] at this; cases this
  funext i
  unfold Mine.full
  split
  · exact key i ‹_›
  · have := F.B.ant.le (by (first | lia | omega) : h ≤ i)
    rw [F.B.z] at this
    (first | lia | omega)
end
end
section
theorem Crs.len_le {h wd : Nat} {c : List Int} {f : Nat → Nat} (C : Crs h wd c f) : c.length ≤ h * wd := by
  have h1 : c.Nodup := (List.pairwise_map.mp C.mw.nd).imp fun q e => q (by rw [e])
  exact len_keys h1 C.len
theorem erase_permN : ∀ (l : List Int) (i : Nat) (h : i < l.length), (l[i] :: l.eraseIdx i).Perm l
  | a :: l, 0, _ => .refl _
  | a :: l, i + 1, h => .trans (.swap ..) (.cons a (erase_permN l i (Nat.lt_of_succ_lt_succ h)))
theorem erase_perm {W : List Int} {y : Int} (h0 : 0 ≤ y) (h1 : y < W.length) : (hgt W y :: W.eraseIdx y.toNat).Perm W := by
  have hlt : y.toNat < W.length := by (first | lia | omega)
  have e : hgt W y = W[y.toNat] := by unfold hgt; rw [List.getElem?_eq_getElem hlt]; rfl
  rw [e]
  exact erase_permN W _ hlt
noncomputable def coBody : SP := (sSeq (sAssign (pBm "list" opPop (pName 4) (lCons (pBin opMod (pBin opItem (pName 2) (pBi opLen (lCons (pName 5) lNil))) (pBi opLen (lCons (pName 4) lNil))) lNil)) (aName 6)) (sSeq (sExpr (pMeth (pName 3) fp_done8 (lCons (pName 6) lNil))) (sSeq (sExpr (pBm "list" opAppend (pName 5) (lCons (pName 6) lNil))) (sAssign (pBi opSorted (lCons (pBin opAdd (pName 4) (pBi opList (lCons (pMeth (pName 3) fp_get_ready lNil) lNil))) lNil)) (aName 4)))))
structure CL (h wd : Nat) (ps : List Int) (keys : List Int) (succ : Int → List Int) (X : Addr) (R0 : AH) (D : Nat → Nat) (W c : List Int) (lo : Loc) (hb hp : AH) : Prop where
  l2 : ∃ a, lo 2 = some (.ref a) ∧ hb a = some (.list (intsA ps))
  l3 : lo 3 = some (.ref X)
  x : ∃ aW aC w don out, lo 4 = some (.ref aW) ∧ lo 5 = some (.ref aC) ∧ Sep hb [LH aW W, w, LH aC c, R0] hp ∧ RS w X keys succ don out [] ∧ Fs h wd keys succ don out D ∧ ∀ k, k ∈ W ↔ out k = true
  nd : W.Nodup
  C : Crs h wd c D
section
variable {h wd : Nat} {ps keys W c : List Int} {succ : Int → List Int} {X : Addr} {R0 hb hp : AH} {D : Nat → Nat} {lo : Loc} {Q : Fl → St → Prop} {E : Ex → St → Prop}
theorem co_body (L : CL h wd ps keys succ X R0 D W c lo hb hp) (hN : h * wd ≤ 36) (hps : h * wd ≤ ps.length) (hW : W ≠ [])
    (k : ∀ lo' hb' hp' D' W' p, Ext hb hb' → CL h wd ps keys succ X R0 D' W' (c ++ [p]) lo' hb' hp' → Q .next ⟨lo', hp'⟩) : coBody Q E ⟨lo, hp⟩ := by
  obtain ⟨a2, l2, h2⟩ := L.l2
  obtain ⟨aW, aC, w, don, out, l4, l5, S, R, F, ho⟩ := L.x
  have hWl := List.length_pos_iff.mpr hW
  -- the place
  have kk := fun {k : Int} (q : k ∈ W) => F.out_key R ((ho k).mp q)
  have hcl : c.length < h * wd := by
    obtain ⟨p, hp⟩ := List.exists_mem_of_ne_nil W hW
    obtain ⟨a, rfl, ha, hc, B⟩ := kk hp
    have := (Crs.snoc L.C B).len_le
    rw [List.length_append] at this
    exact this
  have q0 := Int.emod_nonneg (ps[c.length]'(by (first | lia | omega))) (by (first | lia | omega) : (W.length : Int) ≠ 0)
  have q1 := Int.emod_lt_of_pos (ps[c.length]'(by (first | lia | omega))) (by (first | lia | omega) : (0 : Int) < W.length)
  have hps' : (ps[(c.length : Int).toNat]?) = some (ps[c.length]'(by (first | lia | omega))) := List.getElem?_eq_getElem (by (first | lia | omega))
  generalize ps[c.length]'(by (first | lia | omega)) = pk at q0 q1 hps'
  unfold coBody
  refine S_pop S l4 (z_mod (z_item (R := VI) (z_nameL l2 (S.kn.2.1 _ _ h2)) (z_len (nameK' S (by simp) l5)) (by (first | lia | omega)) hps') (z_len (nameK S l4)) (by (first | lia | omega))) q0 q1 fun hp1 S1 => ?_
  have pm := erase_perm q0 q1
  generalize W.eraseIdx (pk % (W.length : Int)).toNat = W' at S1 pm
  generalize hgt W (pk % (W.length : Int)) = p at S1 pm ⊢
  have nd1 := pm.nodup_iff.mpr L.nd
  obtain ⟨hpW, nd2⟩ := List.nodup_cons.mp nd1
  have hpm : ∀ k, k ∈ W ↔ k = p ∨ k ∈ W' := fun k => by rw [← pm.mem_iff, List.mem_cons]
  have hop := (ho p).mp ((hpm p).mpr (.inl rfl))
  obtain ⟨a, ep, ha, hc, B⟩ := F.out_key R hop
  have S2 : Sep hb [w, LH aW W', LH aC c, R0] hp1 := S1.perm (.swap ..)
  have m3 : setv lo 6 (.int p) 3 = some (.ref X) := L.l3
  have m4 : setv lo 6 (.int p) 4 = some (.ref aW) := l4
  have m5 : setv lo 6 (.int p) 5 = some (.ref aC) := l5
  have m6 : setv lo 6 (.int p) 6 = some (.int p) := rfl
  have m2 : setv lo 6 (.int p) 2 = some (.ref a2) := l2
  refine s_next (S_done8 S2 R m3 m6 hop fun hp2 w2 N S3 R3 => ?_)
  have S4 : Sep hb [LH aC c, w2, LH aW W', R0] hp2 := S3.perm (by
    refine .trans (.swap _ _ _) ?_
    exact .cons _ (.swap _ _ _))
  refine s_next (S_append S4 m5 (by (first | lia | omega)) (z_nameI m6) fun hp3 S5 => ?_)
  have S6 : Sep hb [w2, LH aW W', LH aC (c ++ [p]), R0] hp3 := S5.perm (by
    refine .trans (.cons _ (.swap _ _ _)) ?_
    exact .swap _ _ _)
  rw [List.nil_append] at R3
  have hdis : ∀ k ∈ W', k ∉ N := fun k hk hkN => by
    have h1 := (R3.mem.mp hkN).2.2.1
    unfold subB at h1
    rw [(ho k).mp ((hpm k).mpr (.inr hk))] at h1
    have : k ≠ p := fun e => hpW (e ▸ hk)
    simp [this] at h1
  have ndN : (W' ++ N).Nodup := List.nodup_append.mpr ⟨nd2, R3.nodup, fun x hx y hy e => hdis x hx (e ▸ hy)⟩
  have hlen : (W' ++ N).length ≤ h * wd := len_keys ndN fun k hk => by
    have hkk : k ∈ keys := by
      rcases List.mem_append.mp hk with q | q
      · exact (R.isOut ((ho k).mp ((hpm k).mpr (.inr q)))).1
      · exact (R3.mem.mp q).1
    obtain ⟨i, j, hi, hj, rfl⟩ := (F.F.keys k).mp hkk
    exact ⟨Int.natCast_nonneg _, Int.ofNat_lt.mpr (pc_lt hi hj)⟩
  rw [List.length_append] at hlen
  refine S_sortMore S6 R3 m3 m4 (by (first | lia | omega)) fun hb4 hp4 w4 aW2 W2 e4 S7 R4 pW => k _ hb4 hp4 (inc D a) W2 p e4 ⟨⟨a2, m2, e4 _ _ h2⟩, m3, ⟨aW2, aC, w4, _, _, rfl, m5, ?_, R4, ?_, fun k => ?_⟩, pW.nodup_iff.mpr ndN, ?_⟩
  · exact (S7.perm (ws' := [LH aW W', LH aW2 W2, w4, LH aC (c ++ [p]), R0]) (by
      refine .trans (.swap _ _ _) ?_
      exact .cons _ (.swap _ _ _))).drop
  · rw [ep]
    exact F.done B
  · rw [pW.mem_iff, List.mem_append, Bool.or_eq_true, decide_eq_true_eq]
    refine or_congr ⟨fun q => ?_, fun q => ?_⟩ Iff.rfl
    · unfold subB
      rw [(ho k).mp ((hpm k).mpr (.inr q))]
      have : k ≠ p := fun e => hpW (e ▸ q)
      simp [this]
    · unfold subB at q
      rw [Bool.and_eq_true] at q
      rcases (hpm k).mp ((ho k).mpr q.1) with r | r
      · rw [r] at q; simp at q
      · exact r
  · rw [ep]
    exact .snoc L.C B
theorem course_eq : pt_course = (sSeq (sAssign (pCall fp_field (lCons (pName 0) (lCons (pName 1) lNil))) (aName 3)) (sSeq (sAssign (pBi opSorted (lCons (pMeth (pName 3) fp_get_ready lNil) lNil)) (aName 4)) (sSeq (sAssign (pList lNil) (aName 5)) (sSeq (sWhile (tOf (pBin opNe (pName 4) (pList lNil))) coBody sNil) (sRet (pName 5)))))) := rfl
theorem co_tail (L : CL h wd ps keys succ X R0 D W c lo hb hp) (hN : h * wd ≤ 36) (hps : h * wd ≤ ps.length)
    (k : ∀ hb' hp' lo' a c, Ext hb hb' → Sep hb' [R0] hp' → hb' a = some (.list (intsA c)) → Crs h wd c (full h wd) → Q (.ret (.ref a)) ⟨lo', hp'⟩) : (sSeq (sWhile (tOf (pBin opNe (pName 4) (pList lNil))) coBody sNil) (sRet (pName 5))) Q E ⟨lo, hp⟩ := by
  refine s_next (A := sWhile (tOf (pBin opNe (pName 4) (pList lNil))) coBody sNil) ?_
  refine ⟨fun m σ => ∃ hb' D W c, m + c.length = h * wd ∧ Ext hb hb' ∧ CL h wd ps keys succ X R0 D W c σ.loc hb' σ.hp, ⟨h * wd - c.length, hb, D, W, c, by have := L.C.len_le; (first | lia | omega), Ext.refl _, L⟩, ?_⟩
  rintro m ⟨lo2, hp2⟩ ⟨hb2, D2, W2, c2, hm, e2, L2⟩
  dsimp only at L2
  obtain ⟨aW, aC, w, don, out, l4, l5, S2, R2, F2, ho⟩ := L2.x
  refine (zt_bool (z_neL (nameK S2 l4) (z_list (R := VI) zi_nil (Nat.zero_le _))) : ZT _ _ lo2 _) hp2 S2.kn.1 _ _ fun hb5 hp5 g5 => ?_
  have S5 := S2.ext g5.e
  by_cases q : W2 = []
  · rw [if_neg (by simp [q])]
    subst q
    have hD := F2.full R2 fun k => by
      cases e : out k with
      | false => rfl
      | true => cases (ho k).mpr e
    have S6 : Sep hb2 [LH aC c2, R0] hp5 := S5.drop.drop
    obtain ⟨S7, e7, e8⟩ := S6.fix
    exact ⟨_, l5, k _ hp5 lo2 aC c2 (e2.trans e7) S7 (e8 _ _ lh_self) (hD ▸ L2.C)⟩
  · rw [if_pos (by simp [q])]
    have L5 : CL h wd ps keys succ X R0 D2 W2 c2 lo2 hb2 hp5 := { L2 with x := ⟨aW, aC, w, don, out, l4, l5, S5, R2, F2, ho⟩ }
    refine co_body L5 hN hps q fun lo' hb' hp' D' W' p e' L' => ⟨m - 1, ?_, hb', D', W', c2 ++ [p], ?_, e2.trans e', L'⟩
    · have := L'.C.len_le
      rw [List.length_append, List.length_singleton] at this
      (first | lia | omega)
    · have := L'.C.len_le
      rw [List.length_append, List.length_singleton] at this ⊢
      (first | lia | omega)
theorem course_spec {hp : AH} {Q : AV → AH → Prop} {E : Ex → AH → Prop} {ap : Addr} (s : Ext hb hp) (hw : 0 < wd) (hN : h * wd ≤ 36) (hps : h * wd ≤ ps.length) (hap : hb ap = some (.list (intsA ps)))
    (k : ∀ hb' hp' a c, Gr hb hp hb' hp' → hb' a = some (.list (intsA c)) → Crs h wd c (full h wd) → Q (.ref a) hp') : fp_course [.int h, .int wd, .ref ap] Q E hp := by
  refine ⟨rfl, ?_⟩
  refine (fun (H : ∀ lo : Loc, lo 0 = some (.int (h : Int)) → lo 1 = some (.int (wd : Int)) → lo 2 = some (.ref ap) → pt_course (fun fl σ => Q (retV fl) σ.hp) (fun ex σ => E ex σ.hp) ⟨lo, hp⟩) => H _ rfl rfl rfl) fun lo l0 l1 l2 => ?_
  rw [course_eq]
  have S0 := Sep.begin s
  refine s_next (A := sAssign _ _) ⟨_, l0, _, l1, ?_⟩
  dsimp only [lNil]
  refine field_spec hw (by (first | lia | omega)) fun hp1 w X keys succ Rs R1 F1 e1 ew1 dj1 => ?_
  have S1 := S0.push e1 ew1 dj1
  have hF : Fs h wd keys succ ffB ffB (fun _ => 0) := ⟨F1, ⟨fun _ => Nat.le_refl _, Nat.zero_le _, rfl⟩, fun i j _ _ => ⟨nofun, fun q => absurd q (Nat.not_lt_zero _)⟩⟩
  have hlen : Rs.length ≤ h * wd := len_keys R1.nodup fun k hk => by
    obtain ⟨i, j, hi, hj, rfl⟩ := (F1.keys k).mp (R1.mem.mp hk).1
    exact ⟨Int.natCast_nonneg _, Int.ofNat_lt.mpr (pc_lt hi hj)⟩
  have m2 : setv lo 3 (.ref X) 2 = some (.ref ap) := l2
  dsimp only [aName]
  refine S_sortReady (i := 3) (j := 4) S1 R1 rfl (by (first | lia | omega)) fun hb2 hp2 w2 aW W e2 S2 R2 pW => ?_
  refine S_nil S2 fun hp3 aC S3 => ?_
  refine co_tail (R0 := rst hp hb) (keys := keys) (succ := succ) (X := X) (W := W) (c := []) (D := fun _ => 0) (hb := hb2) ⟨⟨ap, m2, e2 _ _ hap⟩, rfl, ⟨aW, aC, w2, _, _, rfl, rfl, S3.perm (.trans (.cons _ (.swap _ _ _)) (.swap _ _ _)), R2, hF.re, fun k => ?_⟩, pW.nodup_iff.mpr R1.nodup, .nil⟩ hN hps fun hb' hp' lo' a c e' S' ha C => k hb' hp' a c (S'.gr_end s (by simp) (e2.trans e')) ha C
  rw [pW.mem_iff]
  unfold ffB
  simp
end
end
section
section
variable {q : LP} {lo : Loc} {hb hp w : AH} {ws : List AH} {i j : Nat} {X : Addr} {vs us keys Rs : List Int} {succ : Int → List Int} {don out : Int → Bool} {E : Ex → St → Prop}
theorem t_refused {Q : Bool → St → Prop} (S : Sep hb (w :: ws) hp) (R : RS w X keys succ don out []) (li : lo i = some (.ref X)) (hq : ZI q VI (vs ++ us) lo (kn hb (w :: ws))) (hz : (vs ++ us).length ≤ 10) (hnd : vs.Nodup) (ho : ∀ v ∈ vs, out v = true)
    (hw : us = [] ∨ ∃ u, us = [u] ∧ u ∈ keys ∧ u.natAbs < 1000000 ∧ don u = false ∧ out u = false)
    (k : ∀ hp' w' N, Sep hb (w' :: ws) hp' → RS w' X keys succ (addB don vs) (subB out vs) N → Q (decide (us ≠ [])) ⟨lo, hp'⟩) : (tOf (pCall fp_refused (lCons (pName i) (lCons (pList q) lNil)))) Q E ⟨lo, hp⟩ := by
  refine ⟨_, li, hq hp S.kn.1 _ _ fun hb2 hp2 vs' g hvs => ?_⟩
  have ev := All2.ints.mp hvs
  subst ev
  refine ⟨by rw [List.length_map]; (first | lia | omega), fun a za => ?_⟩
  dsimp only [lNil]
  have S2 : Sep hb (w :: ws) (upd hp2 a (.list (intsA (vs ++ us)))) := (S.ext g.e).ext (Ext.new _ za)
  have ha : upd hp2 a (.list (intsA (vs ++ us))) a = some (.list (intsA (vs ++ us))) := upd_self ..
  generalize upd hp2 a (.list (intsA (vs ++ us))) = hp3 at S2 ha
  refine ⟨rfl, ?_⟩
  refine ⟨_, rfl, X, R.inst S2.head, ?_⟩
  refine ⟨_, rfl, a, _, rfl, .inl ha, ?_⟩
  refine h_done8 R S2.head hnd ho hw (fun e hp4 w4 N R4 ew4 e4 dj4 => ?_) fun e hp4 w4 N R4 ew4 e4 dj4 => ⟨rfl, ?_⟩
  · have := k hp4 w4 N (S2.step e4 ew4 dj4) R4
    rwa [decide_eq_false (fun q => q e)] at this
  · have := k hp4 w4 N (S2.step e4 ew4 dj4) R4
    rwa [decide_eq_true e] at this
theorem S_readyX {Q : Fl → St → Prop} (S : Sep hb (w :: ws) hp) (R : RS w X keys succ don out Rs) (li : lo i = some (.ref X))
    (k : ∀ hb' hp' w', Ext hb hb' → Sep hb' (w' :: ws) hp' → RS w' X keys succ don (fun k => out k || decide (k ∈ Rs)) [] → Q .next ⟨lo, hp'⟩) : (sExpr (pMeth (pName i) fp_get_ready lNil)) Q E ⟨lo, hp⟩ := by
  refine ⟨_, li, X, R.inst S.head, ?_⟩
  dsimp only [lNil]
  refine h_ready R S.head fun hp1 w1 t zt R1 ew1 e1 ht dj1 => ?_
  exact k _ _ w1 (Ext.new _ (S.s.none zt)) (S.stepT e1 ew1 zt ht dj1) R1
theorem RS.same {w' : AH} {N : List Int} (R : RS w X keys succ don out []) (R' : RS w' X keys succ (addB don []) (subB out []) N) : RS w' X keys succ don out [] := by
  have e1 : addB don [] = don := by funext k; simp [addB]
  have e2 : subB out [] = out := by funext k; simp [subB]
  rw [e1, e2] at R'
  have : N = [] := List.eq_nil_iff_forall_not_mem.mpr fun k hk => by
    have h1 := R'.mem.mp hk
    cases R.mem.mpr h1
  rwa [this] at R'
end
noncomputable def lrBody : SP := (sSeq (sIf (tNot (tOf (pCall fp_refused (lCons (pName 3) (lCons (pList (lCons (pName 6) lNil)) lNil))))) (sExpr (pBm "list" opAppend (pName 5) (lCons (pName 6) lNil))) (sIf (tOf (pCall fp_refused (lCons (pName 3) (lCons (pList (lCons (pName 4) (lCons (pName 6) lNil))) lNil)))) (sSeq (sExpr (pBm "list" opAppend (pName 5) (lCons (pName 4) lNil))) (sAssign (pName 6) (aName 4))) (sRet (pList lNil)))) (sExpr (pMeth (pName 3) fp_get_ready lNil)))
structure RL8 (h wd : Nat) (keys : List Int) (succ : Int → List Int) (X : Addr) (R0 : AH) (fin : List Int) (D : Nat → Nat) (kk : Nat) (c o : List Int) (lo : Loc) (hb hp : AH) : Prop where
  l3 : lo 3 = some (.ref X)
  l4 : lo 4 = some (.int (pc wd kk (D kk)))
  x : ∃ aF fr w don out, lo 5 = some (.ref aF) ∧ Sep hb [w, LH aF fr, R0] hp ∧ RS w X keys succ don out [] ∧ Fs h wd keys succ don out D ∧ fr ++ o = fin ∧ fr.length < 1000
  R : Rd h wd D kk c o
section
variable {h wd kk : Nat} {keys c o fin : List Int} {p : Int} {succ : Int → List Int} {X : Addr} {R0 hb hp : AH} {D : Nat → Nat} {lo : Loc} {Q : Fl → St → Prop} {E : Ex → St → Prop}
theorem pc_small (hN : h * wd ≤ 36) {i j : Nat} (hi : i < h) (hj : j < wd) : (pc wd i j).natAbs < 1000000 := by
  have := pc_lt hi hj
  unfold pc
  (first | lia | omega)
theorem lr_body (L : RL8 h wd keys succ X R0 fin D kk (p :: c) o lo hb hp) (hN : h * wd ≤ 36) (hf : fin.length < 1000) (l6 : lo 6 = some (.int p))
    (k : ∀ lo' hb' hp' D' kk' o', Ext hb hb' → RL8 h wd keys succ X R0 fin D' kk' c o' lo' hb' hp' → Q .next ⟨lo', hp'⟩) : lrBody Q E ⟨lo, hp⟩ := by
  obtain ⟨aF, fr, w, don, out, l5, S, R, F, ef, hfl⟩ := L.x
  have LR := L.R
  have l3 := L.l3
  have l4 := L.l4
  unfold lrBody
  cases LR with
  | @go _ _ m _ o' hne B LR =>
    have hm := B.row
    have hc := B.col
    have hout := (F.isOut R hm hc).mpr ⟨rfl, B⟩
    refine s_next ?_
    refine t_refused (vs := [pc wd m (D m)]) (us := []) S R l3 (zi_cons (z_nameI l6) zi_nil) (by simp) (by simp) (fun v hv => by rw [List.mem_singleton.mp hv]; exact hout) (.inl rfl) fun hp2 w2 N S2 R2 => ?_
    dsimp only
    rw [if_pos (by simp)]
    have hfl2 : fr.length + 1 < 1000 := by
      have := congrArg List.length ef
      rw [List.length_append, List.length_cons] at this
      (first | lia | omega)
    refine S_append (S2.perm (.swap ..)) l5 (by (first | lia | omega)) (z_nameI l6) fun hp3 S3 => ?_
    refine S_readyX (S3.perm (.swap ..)) R2 l3 fun hb4 hp4 w4 e4 S4 R4 => k lo hb4 hp4 (inc D m) kk o' e4 ⟨l3, by rw [inc_ne hne]; exact l4, ⟨aF, _, w4, _, _, l5, S4, R4, F.done B, by rw [← ef]; simp, by rw [List.length_append, List.length_singleton]; exact hfl2⟩, LR⟩
  | @turn _ _ e _ o' he B B' LR =>
    have hk := B.row
    have hkc := B.col
    have hi := B'.row
    have hj := B'.col
    have hout := (F.isOut R hk hkc).mpr ⟨rfl, B⟩
    have pk : pc wd e (inc D kk e) ∈ keys := (F.F.keys _).mpr ⟨e, _, hi, hj, rfl⟩
    have hge : D e ≤ inc D kk e := le_inc e
    have pd : don (pc wd e (inc D kk e)) = false := by
      cases q : don (pc wd e (inc D kk e)) with
      | false => rfl
      | true => have := (F.d e _ hi hj).mp q; (first | lia | omega)
    have po : out (pc wd e (inc D kk e)) = false := by
      cases q : out (pc wd e (inc D kk e)) with
      | false => rfl
      | true =>
        obtain ⟨h1, h2⟩ := (F.isOut R hi hj).mp q
        rcases he with rfl | ⟨rfl, h3⟩
        · rw [inc_self] at h1; (first | lia | omega)
        · have := h2.ant.up (i := kk) (Nat.lt_succ_self _); (first | lia | omega)
    have ps := pc_small hN hi hj
    have hfl2 : fr.length + 1 < 1000 := by
      have := congrArg List.length ef
      rw [List.length_append, List.length_cons] at this
      (first | lia | omega)
    refine s_next ?_
    refine t_refused (vs := []) (us := [pc wd e (inc D kk e)]) S R l3 (zi_cons (z_nameI l6) zi_nil) (by simp) (by simp) nofun (.inr ⟨_, rfl, pk, ps, pd, po⟩) fun hp2 w2 N S2 R2 => ?_
    dsimp only
    rw [if_neg (by simp)]
    have R2' := R.same R2
    refine t_refused (vs := [pc wd kk (D kk)]) (us := [pc wd e (inc D kk e)]) S2 R2' l3 (zi_cons (z_nameI l4) (zi_cons (z_nameI l6) zi_nil)) (by simp) (by simp) (fun v hv => by rw [List.mem_singleton.mp hv]; exact hout) (.inr ⟨_, rfl, pk, ps, pd, po⟩) fun hp3 w3 N3 S3 R3 => ?_
    rw [if_pos (by simp)]
    refine s_next (S_append (S3.perm (.swap ..)) l5 (by (first | lia | omega)) (z_nameI l4) fun hp4 S4 => ?_)
    refine ⟨_, l6, ?_⟩
    dsimp only [aName]
    refine S_readyX (S4.perm (.swap ..)) R3 l3 fun hb5 hp5 w5 e5 S5 R5 => k _ hb5 hp5 (inc D kk) e o' e5 ⟨l3, rfl, ⟨aF, _, w5, _, _, l5, S5, R5, F.done B, by rw [← ef]; simp, by rw [List.length_append, List.length_singleton]; exact hfl2⟩, LR⟩
end
end
section
theorem pick_tail {x : Int} {l : List Int} : pickL (x :: l) (some 1) none = l := by
  have e1 : clipN (some 1) 0 (x :: l).length = 1 := by
    show (max 0 (min (1 : Int) ((x :: l).length : Nat))).toNat = 1
    rw [List.length_cons]
    (first | lia | omega)
  have e2 : clipN none (x :: l).length (x :: l).length = (x :: l).length := rfl
  unfold pickL
  rw [e1, e2, List.length_cons, Nat.add_sub_cancel]
  exact List.take_length
theorem lround_eq : pt_lround = (sSeq (sAssign (pCall fp_field (lCons (pName 0) (lCons (pName 1) lNil))) (aName 3)) (sSeq (sExpr (pMeth (pName 3) fp_get_ready lNil)) (sSeq (sAssign (pBin opItem (pName 2) (pInt 0)) (aName 4)) (sSeq (sAssign (pList lNil) (aName 5)) (sSeq (sFor (iSeq (pSlice (pName 2) (pInt 1) pNone)) (aName 6) lrBody) (sSeq (sExpr (pMeth (pName 3) fp_done8 (lCons (pName 4) lNil))) (sRet (pBin opAdd (pName 5) (pList (lCons (pName 4) lNil)))))))))) := rfl
section
variable {h wd : Nat} {rest fin : List Int} {hb hp : AH}
theorem round_spec {Q : AV → AH → Prop} {E : Ex → AH → Prop} {ap : Addr} (s : Ext hb hp) (hw : 0 < wd) (hN : h * wd ≤ 36) (hf : fin.length < 1000) (hap : hb ap = some (.list (intsA (pc wd 0 0 :: rest)))) (hR : Rd h wd (fun _ => 0) 0 rest fin)
    (k : ∀ hb' hp' a, Gr hb hp hb' hp' → hb' a = some (.list (intsA fin)) → Q (.ref a) hp') : fp_lround [.int h, .int wd, .ref ap] Q E hp := by
  refine ⟨rfl, ?_⟩
  refine (fun (H : ∀ lo : Loc, lo 0 = some (.int (h : Int)) → lo 1 = some (.int (wd : Int)) → lo 2 = some (.ref ap) → pt_lround (fun fl σ => Q (retV fl) σ.hp) (fun ex σ => E ex σ.hp) ⟨lo, hp⟩) => H _ rfl rfl rfl) fun lo l0 l1 l2 => ?_
  rw [lround_eq]
  have S0 := Sep.begin s
  refine s_next (A := sAssign _ _) ⟨_, l0, _, l1, ?_⟩
  dsimp only [lNil]
  refine field_spec hw (by (first | lia | omega)) fun hp1 w X keys succ Rs R1 F1 e1 ew1 dj1 => ?_
  have S1 := S0.push e1 ew1 dj1
  have hF : Fs h wd keys succ ffB ffB (fun _ => 0) := ⟨F1, ⟨fun _ => Nat.le_refl _, Nat.zero_le _, rfl⟩, fun i j _ _ => ⟨nofun, fun q => absurd q (Nat.not_lt_zero _)⟩⟩
  dsimp only [aName]
  have m2 : setv lo 3 (.ref X) 2 = some (.ref ap) := l2
  have m3 : setv lo 3 (.ref X) 3 = some (.ref X) := rfl
  refine s_next (S_readyX S1 R1 m3 fun hb2 hp2 w2 e2 S2 R2 => ?_)
  refine S_int S2 (z_item (R := VI) (x := pc wd 0 0) (z_nameL m2 (S2.kn.2.1 _ _ (e2 _ _ hap))) z_int (by decide) rfl) fun hp3 S3 => ?_
  refine S_nil S3 fun hp4 aF S4 => ?_
  have n2 : setv (setv (setv lo 3 (.ref X)) 4 (.int (pc wd 0 0))) 5 (.ref aF) 2 = some (.ref ap) := l2
  have n3 : setv (setv (setv lo 3 (.ref X)) 4 (.int (pc wd 0 0))) 5 (.ref aF) 3 = some (.ref X) := rfl
  have n4 : setv (setv (setv lo 3 (.ref X)) 4 (.int (pc wd 0 0))) 5 (.ref aF) 4 = some (.int (pc wd 0 0)) := rfl
  have n5 : setv (setv (setv lo 3 (.ref X)) 4 (.int (pc wd 0 0))) 5 (.ref aF) 5 = some (.ref aF) := rfl
  generalize setv (setv (setv lo 3 (.ref X)) 4 (.int (pc wd 0 0))) 5 (.ref aF) = lo1 at n2 n3 n4 n5
  have zs := zf_cast (zf_slice (R := VI) (hb := hb2) (l := some 1) (u := none) (z_nameL n2 (e2 _ _ hap)) (z_bound (z_int (x := 1))) z_noB) pick_tail
  refine s_next (S_for S4 (zs_list zs.z) (fun i lo2 hb3 hp3 => ∃ D kk o, RL8 h wd keys succ X (rst hp hb) fin D kk (rest.drop i) o lo2 hb3 hp3) ?_ ?_ ?_ ?_)
  · exact fun hb' hp' e' S' => ⟨fun _ => 0, 0, fin, n3, n4, ⟨aF, [], w2, _, _, n5, S'.perm (.swap ..), R2, hF.re, rfl, by decide⟩, hR⟩
  · rintro i lo2 hb3 hp3 ⟨D, kk, o, L⟩
    obtain ⟨_, _, _, _, _, _, S, _⟩ := L.x
    exact S.s
  · rintro i x v lo2 hb3 hp3 P hi e3 rfl ⟨D, kk, o, L⟩ KK
    have hd : rest.drop i = x :: rest.drop (i + 1) := by
      obtain ⟨hlt, he⟩ := List.getElem?_eq_some_iff.mp hi
      rw [List.drop_eq_getElem_cons hlt, he]
    rw [hd] at L
    have L' : RL8 h wd keys succ X (rst hp hb) fin D kk (x :: rest.drop (i + 1)) o (setv lo2 6 (.int x)) hb3 hp3 := ⟨L.l3, L.l4, L.x, L.R⟩
    dsimp only [aName]
    exact lr_body L' hN hf rfl fun lo' hb' hp' D' kk' o' e' L2 => KK.n e' ⟨D', kk', o', L2⟩
  · rintro lo2 hb3 hp3 e3 ⟨D, kk, o, L⟩
    rw [List.drop_length] at L
    obtain ⟨aF', fr, w3, don, out, l5, S, R, F, ef, hfl⟩ := L.x
    have LR := L.R
    cases LR with
    | nil B =>
      have hout := (F.isOut R B.row B.col).mpr ⟨rfl, B⟩
      refine s_next (S_done8 S R L.l3 L.l4 hout fun hp5 w5 N S5 R5 => ?_)
      have S6 : Sep hb3 [LH aF' fr, rst hp hb] hp5 := S5.drop
      obtain ⟨S7, e7, e8⟩ := S6.fix
      refine (zf_cat (R := VI) (hb := uni hb3 (LH aF' fr)) (z_nameL l5 (e8 _ _ lh_self)) (z_list (R := VI) (zi_cons (z_nameI L.l4) zi_nil) (by simp)) (by simp; (first | lia | omega))) hp5 S7.s _ _ fun hb8 hp8 v g hv => ?_
      obtain ⟨a, rfl, _, ha⟩ := vf_ints.mp hv
      rw [ef] at ha
      exact k hb8 hp8 a ((S7.gr g).gr_end s (by simp) (e2.trans (e3.trans (e7.trans g.b)))) ha
end
end
section
noncomputable def RM (as : List Addr) (G : Nat → List Int) : AH := MHv as fun i => intsA (G i)
noncomputable def setG (G : Nat → List Int) (k : Nat) (row : List Int) : Nat → List Int := fun i => if i = k then row else G i
section
variable {p q r : EP} {lo : Loc} {hb hp : AH} {ws : List AH} {as : List Addr} {G : Nat → List Int} {la : Addr} {i j k : Nat} {x y : Int} {l row : List Int} {Q : Fl → St → Prop} {E : Ex → St → Prop}
theorem rm_at (hn : as.Nodup) {a : Addr} (h : as[k]? = some a) : RM as G a = some (.list (intsA (G k))) := mh_at (M := fun i => intsA (G i)) hn h
theorem rm_set (S : Sep hb (RM as G :: ws) hp) (hn : as.Nodup) {a : Addr} (h : as[k]? = some a) : Sep hb (RM as (setG G k row) :: ws) (upd hp a (.list (intsA row))) := by
  have := S.setM (row := intsA row) hn h
  have e : RM as (setG G k row) = MHv as (setR (fun i => intsA (G i)) k (intsA row)) := by
    unfold RM
    refine congrArg (MHv as) ?_
    funext i
    unfold setG setR
    split <;> rfl
  rw [e]
  exact this
theorem z_rowK (S : Sep hb ws hp) (hm : RM as G ∈ ws) (hla : hb la = some (.list (as.map .ref))) (hn : as.Nodup) (hi : lo j = some (.ref la)) (h : Z q VI (k : Nat) lo (kn hb ws)) (hk : k < as.length) : Z (pBin opItem (pName j) q) (VL VI) (G k) lo (kn hb ws) := by
  have ha : as[k]? = some as[k] := List.getElem?_eq_getElem hk
  exact z_listA (z_rowA hi (S.kn.2.1 _ _ hla) h (by (first | lia | omega)) ha) (S.kn.2.2 _ hm _ _ (rm_at hn ha)) (All2.ints.mpr rfl)
theorem z_index (h1 : Z p (VL VI) l lo hb) (h2 : Z q VI x lo hb) (hx : x ∈ l) : Z (pBm "list" opIndex p (lCons q lNil)) VI (l.idxOf x) lo hb := fun hp s Q E k =>
  h1 hp s _ _ fun hb2 hp2 u g hu => by
    obtain ⟨a, rfl, ha⟩ := vl_ints.mp hu
    refine ⟨⟨a, _, rfl, g.s _ _ ha, rfl⟩, (h2.ext g.b) hp2 g.s _ _ fun hb3 hp3 v g3 hv => ?_⟩
    cases hv
    exact ⟨l, g3.e _ _ (g.s _ _ ha), hx, k _ _ _ (g.trans g3) rfl⟩
theorem S_rowSet (S : Sep hb (RM as G :: ws) hp) (hla : hb la = some (.list (as.map .ref))) (hn : as.Nodup) (hi : lo j = some (.ref la)) (h : Z p VI x lo (kn hb (RM as G :: ws))) (h1 : Z q VI (k : Nat) lo (kn hb (RM as G :: ws))) (h2 : Z r VI y lo (kn hb (RM as G :: ws))) (hk : k < as.length) (h0 : 0 ≤ y) (hy : y < (G k).length)
    (K : ∀ hp', Sep hb (RM as (setG G k ((G k).set y.toNat x)) :: ws) hp' → Q .next ⟨lo, hp'⟩) : (sAssign p (aItem (pBin opItem (pName j) q) r)) Q E ⟨lo, hp⟩ := by
  have ha : as[k]? = some as[k] := List.getElem?_eq_getElem hk
  generalize as[k] = a at ha
  refine h hp S.kn.1 _ _ ?_
  rintro hb1 hp1 _ g1 rfl
  refine (z_rowA (y := (k : Int)) hi ((S.kn.2.1.trans g1.b) _ _ hla) (h1.ext g1.b) (by (first | lia | omega)) ha) hp1 g1.s _ _ ?_
  rintro hb2 hp2 _ g2 rfl
  refine (h2.ext (g1.b.trans g2.b)) hp2 g2.s _ _ ?_
  rintro hb3 hp3 _ g3 rfl
  have S3 := S.ext (g1.trans (g2.trans g3)).e
  refine .inl ⟨_, S3.head _ _ (rm_at hn ha), h0, by rw [List.length_map]; exact hy, ?_⟩
  rw [← intsA_set]
  exact K _ (rm_set S3 hn ha)
theorem S_rowApp (S : Sep hb (RM as G :: ws) hp) (hla : hb la = some (.list (as.map .ref))) (hn : as.Nodup) (hi : lo j = some (.ref la)) (h : Z p VI x lo (kn hb (RM as G :: ws))) (h1 : Z q VI (k : Nat) lo (kn hb (RM as G :: ws))) (hk : k < as.length) (hz : (G k).length < 1000000)
    (K : ∀ hp', Sep hb (RM as (setG G k (G k ++ [x])) :: ws) hp' → Q .next ⟨lo, hp'⟩) : (sExpr (pBm "list" opAppend (pBin opItem (pName j) q) (lCons p lNil))) Q E ⟨lo, hp⟩ := by
  have ha : as[k]? = some as[k] := List.getElem?_eq_getElem hk
  generalize as[k] = a at ha
  refine (z_rowA (y := (k : Int)) hi (S.kn.2.1 _ _ hla) h1 (by (first | lia | omega)) ha) hp S.kn.1 _ _ ?_
  rintro hb1 hp1 _ g1 rfl
  have S1 := S.ext g1.e
  refine ⟨⟨a, _, rfl, S1.head _ _ (rm_at hn ha), rfl⟩, ?_⟩
  refine (h.ext g1.b) hp1 g1.s _ _ ?_
  rintro hb2 hp2 _ g2 rfl
  have S2 := S1.ext g2.e
  refine ⟨_, S2.head _ _ (rm_at hn ha), by rw [List.length_map]; exact hz, ?_⟩
  have e : intsA (G k) ++ [AV.int x] = intsA (G k ++ [x]) := (List.map_append (l₁ := G k) (l₂ := [x])).symm
  rw [e]
  exact K _ (rm_set S2 hn ha)
end
-- the rows of an insertion
theorem ins_some {r : List Int} {rs : List (List Int)} {y o : Int} (q : least (gtr r y) = some o) : ins (r :: rs) y = rep r o y :: ins rs o ∧ grow (r :: rs) y = grow rs o + 1 := by
  constructor
  · show (match least (gtr r y) with | none => _ | some o => _) = _
    rw [q]
  · show (match least (gtr r y) with | none => _ | some o => _) = _
    rw [q]
theorem ins_none {r : List Int} {rs : List (List Int)} {y : Int} (q : gtr r y = []) : ins (r :: rs) y = (r ++ [y]) :: rs ∧ grow (r :: rs) y = 0 := by
  constructor
  · show (match least (gtr r y) with | none => _ | some o => _) = _
    rw [q]; rfl
  · show (match least (gtr r y) with | none => _ | some o => _) = _
    rw [q]; rfl
theorem grow_le : ∀ {P : List (List Int)} {y : Int}, grow P y ≤ P.length
  | [], _ => Nat.le_refl _
  | r :: rs, y => by
    unfold grow
    cases least (gtr r y) with
    | none => exact Nat.zero_le _
    | some o => exact Nat.succ_le_succ grow_le
theorem len_ins : ∀ {P : List (List Int)} {y : Int}, (ins P y).length ≤ P.length + 1
  | [], _ => Nat.le_refl _
  | r :: rs, y => by
    unfold ins
    cases least (gtr r y) with
    | none => exact Nat.le_succ _
    | some o => exact Nat.succ_le_succ len_ins
theorem len_tab {u : List Int} : (tab u).length ≤ u.length := by
  induction u using snoc_ind with
  | h0 => exact Nat.le_refl _
  | h1 u y ih =>
    rw [tab_snoc, List.length_append]
    exact Nat.le_trans len_ins (Nat.succ_le_succ ih)
noncomputable def At (G : Nat → List Int) (k : Nat) (P : List (List Int)) : Prop := ∀ i, G (k + i) = P.getD i []
noncomputable def Fin (G : Nat → List Int) (k : Nat) (P : List (List Int)) : Nat → List Int := fun i => if i < k then G i else P.getD (i - k) []
theorem at_cons {G : Nat → List Int} {k : Nat} {P : List (List Int)} {o y : Int} (h : At G k P) (q : least (gtr (G k) y) = some o) : ∃ r rs, P = r :: rs ∧ G k = r ∧ At (setG G k (rep r o y)) (k + 1) rs ∧ grow P y = grow rs o + 1 ∧ Fin (setG G k (rep r o y)) (k + 1) (ins rs o) = Fin G k (ins P y) := by
  cases P with
  | nil =>
    have h0 : G k = [] := h 0
    rw [h0] at q
    cases q
  | cons r rs =>
    have h0 : G k = r := h 0
    rw [h0] at q
    refine ⟨r, rs, rfl, h0, fun i => ?_, (ins_some q).2, ?_⟩
    · unfold setG
      rw [if_neg (by (first | lia | omega))]
      have := h (i + 1)
      rw [show k + (i + 1) = k + 1 + i from by (first | lia | omega)] at this
      exact this
    · have e : ins (r :: rs) y = rep r o y :: ins rs o := (ins_some q).1
      rw [e]
      funext i
      unfold Fin setG
      by_cases c : i < k
      · rw [if_pos c, if_pos (by (first | lia | omega)), if_neg (by (first | lia | omega))]
      · rw [if_neg c]
        by_cases d : i = k
        · rw [if_pos (by (first | lia | omega)), if_pos d, d, Nat.sub_self]; rfl
        · rw [if_neg (by (first | lia | omega))]
          obtain ⟨m, rfl⟩ : ∃ m, i = k + 1 + m := ⟨i - (k + 1), by (first | lia | omega)⟩
          rw [show k + 1 + m - (k + 1) = m from by (first | lia | omega), show k + 1 + m - k = m + 1 from by (first | lia | omega)]
          rfl
theorem at_end {G : Nat → List Int} {k : Nat} {P : List (List Int)} {y : Int} (h : At G k P) (q : gtr (G k) y = []) : grow P y = 0 ∧ (G k).length = shp P 0 ∧ setG G k (G k ++ [y]) = Fin G k (ins P y) := by
  have e0 : G k = P.getD 0 [] := h 0
  have hb : ∀ i, i ≠ k → ¬ i < k → ∀ P' : List (List Int), (∀ j, (P'.getD (j + 1) [] : List Int) = P.getD (j + 1) []) → G i = P'.getD (i - k) [] := fun i c d P' hP => by
    obtain ⟨m, rfl⟩ : ∃ m, i = k + (m + 1) := ⟨i - k - 1, by (first | lia | omega)⟩
    rw [show k + (m + 1) - k = m + 1 from by (first | lia | omega), hP]
    exact h (m + 1)
  refine ⟨?_, by rw [e0]; rfl, ?_⟩
  · cases P with
    | nil => rfl
    | cons r rs =>
      have e0 : G k = r := e0
      rw [e0] at q
      exact (ins_none q).2
  · funext i
    unfold setG Fin
    by_cases c : i = k
    · rw [if_pos c, if_neg (by (first | lia | omega)), c, Nat.sub_self]
      cases P with
      | nil => rw [e0]; rfl
      | cons r rs =>
        have e0 : G k = r := e0
        rw [e0] at q ⊢
        rw [(ins_none q).1]; rfl
    · rw [if_neg c]
      by_cases d : i < k
      · rw [if_pos d]
      · rw [if_neg d]
        refine hb i c d _ fun j => ?_
        cases P with
        | nil => cases j <;> rfl
        | cons r rs =>
          have e0 : G k = r := e0
          rw [e0] at q
          rw [(ins_none q).1]; rfl
end
section
theorem S_le {u : List Int} (i : Nat) : S u i ≤ u.length := by
  induction u using snoc_ind with
  | h0 => exact Nat.le_of_eq rfl
  | h1 u y ih =>
    rw [S_snoc, List.length_append]
    unfold inc
    split
    · exact Nat.succ_le_succ ih
    · exact Nat.le_succ_of_le ih
noncomputable def ceGr (q : EP) : EP := (pComp [none, some 4] (iSeq (pBin opItem (pName 2) q)) (aName 0) (cTest (some (tOf (pBin opGt (pName 0) (pName 1)))) (cEmit (pName 0))))
noncomputable def ceWB : SP := (sSeq (sAssign (pBi opMin2 (lCons (pName 6) lNil)) (aName 7)) (sSeq (sAssign (pName 4) (aItem (pBin opItem (pName 2) (pName 5)) (pBm "list" opIndex (pBin opItem (pName 2) (pName 5)) (lCons (pName 7) lNil)))) (sSeq (sAssign (pName 7) (aName 4)) (sSeq (sAugName iAdd 5 (pInt 1)) (sAssign (ceGr (pName 5)) (aName 6))))))
noncomputable def ceWhile : SP := (sWhile (tOf (pBin opNe (pName 6) (pList lNil))) ceWB sNil)
noncomputable def ceEnd : SP := (sSeq (sExpr (pBm "list" opAppend (pName 3) (lCons (pBin opAdd (pBin opMul (pName 5) (pName 1)) (pBi opLen (lCons (pBin opItem (pName 2) (pName 5)) lNil))) lNil))) (sExpr (pBm "list" opAppend (pBin opItem (pName 2) (pName 5)) (lCons (pName 4) lNil))))
noncomputable def ceBody : SP := (sSeq (sAssign (pInt 0) (aName 5)) (sSeq (sAssign (ceGr (pInt 0)) (aName 6)) (sSeq ceWhile ceEnd)))
theorem cells_eq : pt_cells = (sSeq (sAssign (pComp [none] (iRange (lCons (pBin opAdd (pBi opLen (lCons (pName 0) lNil)) (pInt 1)) lNil)) (aName 0) (cTest none (cEmit (pList lNil)))) (aName 2)) (sSeq (sAssign (pList lNil) (aName 3)) (sSeq (sFor (iSeq (pName 0)) (aName 4) ceBody) (sRet (pName 3))))) := rfl
structure CE (wd : Nat) (as : List Addr) (la aC : Addr) (lo : Loc) (hb : AH) : Prop where
  l1 : lo 1 = some (.int wd)
  l2 : lo 2 = some (.ref la)
  l3 : lo 3 = some (.ref aC)
  hla : hb la = some (.list (as.map .ref))
section
variable {q : EP} {wd k kt ln : Nat} {as : List Addr} {la aC aG : Addr} {lo : Loc} {hb hp R0 : AH} {ws : List AH} {G Gf : Nat → List Int} {P : List (List Int)} {y : Int} {cs : List Int} {Q : Fl → St → Prop} {E : Ex → St → Prop}
theorem CE.to {lo' : Loc} {hb' : AH} (C : CE wd as la aC lo hb) (e : Ext hb hb') (f : ∀ j, j < 4 → lo' j = lo j) : CE wd as la aC lo' hb' :=
  ⟨(f 1 (by decide)).trans C.l1, (f 2 (by decide)).trans C.l2, (f 3 (by decide)).trans C.l3, e _ _ C.hla⟩
theorem z_gr (S : Sep hb ws hp) (hm : RM as G ∈ ws) (C : CE wd as la aC lo hb) (hn : as.Nodup) (h : Z q VI (k : Nat) lo (kn hb ws)) (hk : k < as.length) (l4 : lo 4 = some (.int y)) (hz : (G k).length < 1000000) : ZF (ceGr q) VI (gtr (G k) y) lo (kn hb ws) :=
  zf_filt (zs_list (z_rowK S hm C.hla hn C.l2 h hk)) hz fun x _ hb1 _ => zt_bool (z_gt (z_nameI rfl) (z_nameI (i := 1) l4))
structure CW (wd : Nat) (as : List Addr) (la aC : Addr) (R0 : AH) (cs : List Int) (kt ln : Nat) (Gf : Nat → List Int) (G : Nat → List Int) (k : Nat) (P : List (List Int)) (y : Int) (lo : Loc) (hb hp : AH) : Prop where
  C : CE wd as la aC lo hb
  l4 : lo 4 = some (.int y)
  l5 : lo 5 = some (.int k)
  x : ∃ aG, lo 6 = some (.ref aG) ∧ Sep hb [LH aG (gtr (G k) y), RM as G, LH aC cs, R0] hp
  at_ : At G k P
  kt : k + grow P y = kt
  ln : shp P (grow P y) = ln
  fin : Fin G k (ins P y) = Gf
  sm : ∀ i, (G i).length < 1000
theorem ce_wb (W : CW wd as la aC R0 cs kt ln Gf G k P y lo hb hp) (hn : as.Nodup) (hkt : kt < as.length) (hg : gtr (G k) y ≠ [])
    (K : ∀ lo' hp' G' P' y', CW wd as la aC R0 cs kt ln Gf G' (k + 1) P' y' lo' hb hp' → P'.length < P.length → Q .next ⟨lo', hp'⟩) : ceWB Q E ⟨lo, hp⟩ := by
  obtain ⟨aG, l6, S⟩ := W.x
  cases q : least (gtr (G k) y) with
  | none => exact absurd (least_none q) hg
  | some o =>
  obtain ⟨h1, h2⟩ := least_some q
  obtain ⟨r, rs, rfl, er, A', e1, e2⟩ := at_cons W.at_ q
  subst er
  have hoG := (mem_gtr.mp h1).1
  have hk1 := W.kt
  rw [e1] at hk1
  have hkl : k < as.length := by (first | lia | omega)
  unfold ceWB
  refine S_int S (z_min (nameK S l6) h1 h2) fun hp1 S1 => ?_
  have S2 : Sep hb [RM as G, LH aC cs, R0] hp1 := S1.drop
  have C1 := W.C.to (lo' := setv lo 7 (.int o)) (Ext.refl _) fun j hj => setv_ne _ _ (by (first | lia | omega))
  have m4 : setv lo 7 (.int o) 4 = some (.int y) := W.l4
  have m5 : setv lo 7 (.int o) 5 = some (.int k) := W.l5
  have hidx : (G k).idxOf o < (G k).length := List.idxOf_lt_length_iff.mpr hoG
  refine s_next (S_rowSet S2 W.C.hla hn C1.l2 (z_nameI m4) (z_nameI m5) (z_index (z_rowK S2 (List.mem_cons_self ..) W.C.hla hn C1.l2 (z_nameI m5) hkl) (z_nameI (i := 7) rfl) hoG) hkl (by (first | lia | omega)) (by (first | lia | omega)) fun hp2 S3 => ?_)
  rw [Int.toNat_natCast] at S3
  have e3 : (G k).set ((G k).idxOf o) y = rep (G k) o y := rfl
  rw [e3] at S3
  refine S_int S3 (z_nameI (i := 7) rfl) fun hp3 S4 => ?_
  have m5' : setv (setv lo 7 (.int o)) 4 (.int o) 5 = some (.int k) := W.l5
  refine s_next ⟨_, m5', ?_⟩
  dsimp only [pInt, iAdd, aName]
  have C2 := C1.to (lo' := setv (setv (setv lo 7 (.int o)) 4 (.int o)) 5 (.int ((k : Int) + 1))) (Ext.refl _) fun j hj => (setv_ne _ _ (by (first | lia | omega))).trans (setv_ne _ _ (by (first | lia | omega)))
  have n5 : setv (setv (setv lo 7 (.int o)) 4 (.int o)) 5 (.int ((k : Int) + 1)) 5 = some (.int ((k + 1 : Nat) : Int)) := rfl
  have n4 : setv (setv (setv lo 7 (.int o)) 4 (.int o)) 5 (.int ((k : Int) + 1)) 4 = some (.int o) := rfl
  generalize setv (setv (setv lo 7 (.int o)) 4 (.int o)) 5 (.int ((k : Int) + 1)) = lo3 at C2 n5 n4
  have sm : ∀ i, (setG G k (rep (G k) o y) i).length < 1000 := fun i => by
    unfold setG
    split
    · unfold rep; rw [List.length_set]; exact W.sm k
    · exact W.sm i
  have zg := z_gr S4 (List.mem_cons_self ..) C2 hn (z_nameI n5) (by (first | lia | omega)) n4 (Nat.lt_trans (sm _) (by decide))
  refine S_own1 S4 zg fun hp5 aG2 S5 => K _ hp5 _ rs o ⟨C2.to (Ext.refl _) fun j hj => setv_ne _ _ (by (first | lia | omega)), n4, n5, ⟨aG2, rfl, S5⟩, A', by (first | lia | omega), ?_, ?_, sm⟩ (Nat.lt_succ_self _)
  · rw [← W.ln, e1]; rfl
  · rw [e2]; exact W.fin
theorem ce_while (W : CW wd as la aC R0 cs kt ln Gf G k P y lo hb hp) (hn : as.Nodup) (hkt : kt < as.length)
    (K : ∀ lo' hp' G' y', CE wd as la aC lo' hb → lo' 4 = some (.int y') → lo' 5 = some (.int kt) → Sep hb [RM as G', LH aC cs, R0] hp' → (G' kt).length = ln → setG G' kt (G' kt ++ [y']) = Gf → (∀ i, (G' i).length < 1000) → Q .next ⟨lo', hp'⟩) : ceWhile Q E ⟨lo, hp⟩ := by
  refine ⟨fun m σ => ∃ G k P y, P.length = m ∧ CW wd as la aC R0 cs kt ln Gf G k P y σ.loc hb σ.hp, ⟨P.length, G, k, P, y, rfl, W⟩, ?_⟩
  rintro m ⟨lo2, hp2⟩ ⟨G2, k2, P2, y2, hm, W2⟩
  dsimp only at W2
  obtain ⟨aG, l6, S2⟩ := W2.x
  refine (zt_bool (z_neL (nameK S2 l6) (z_list (R := VI) zi_nil (Nat.zero_le _))) : ZT _ _ lo2 _) hp2 S2.kn.1 _ _ fun hb5 hp5 g5 => ?_
  have S5 := S2.ext g5.e
  by_cases q : gtr (G2 k2) y2 = []
  · rw [if_neg (by simp [q])]
    obtain ⟨h1, h2, h3⟩ := at_end W2.at_ q
    have hk := W2.kt
    rw [h1] at hk
    have hk : k2 = kt := hk
    subst hk
    refine K lo2 hp5 G2 y2 W2.C W2.l4 W2.l5 S5.drop ?_ ?_ W2.sm
    · rw [h2, ← W2.ln, h1]
    · rw [h3]; exact W2.fin
  · rw [if_pos (by simp [q])]
    have W5 : CW wd as la aC R0 cs kt ln Gf G2 k2 P2 y2 lo2 hb hp5 := { W2 with x := ⟨aG, l6, S5⟩ }
    exact ce_wb W5 hn hkt q fun lo' hp' G' P' y' W' hl => ⟨P'.length, by (first | lia | omega), G', k2 + 1, P', y', rfl, W'⟩
theorem ce_body {x : Int} {u : List Int} (C : CE wd as la aC lo hb) (S : Sep hb [RM as G, LH aC cs, R0] hp) (hn : as.Nodup) (hA : At G 0 (tab u)) (hu : u.length < as.length) (hul : u.length < 100) (hw : wd < 1000) (hcs : cs.length < 1000) (l4 : lo 4 = some (.int x))
    (K : ∀ lo' hp' G', CE wd as la aC lo' hb → Sep hb [RM as G', LH aC (cs ++ [pc wd (grow (tab u) x) (shp (tab u) (grow (tab u) x))]), R0] hp' → At G' 0 (tab (u ++ [x])) → Q .next ⟨lo', hp'⟩) : ceBody Q E ⟨lo, hp⟩ := by
  have sm : ∀ i, (G i).length < 1000 := fun i => by
    have h1 := hA i
    rw [Nat.zero_add] at h1
    rw [h1]
    exact Nat.lt_of_le_of_lt (S_le (u := u) i) (by (first | lia | omega))
  have hkt : grow (tab u) x < as.length := Nat.lt_of_le_of_lt grow_le (Nat.lt_of_le_of_lt len_tab hu)
  unfold ceBody
  refine S_int S (z_int (x := 0)) fun hp1 S1 => ?_
  have C1 := C.to (lo' := setv lo 5 (.int 0)) (Ext.refl _) fun j hj => setv_ne _ _ (by (first | lia | omega))
  have m4 : setv lo 5 (.int 0) 4 = some (.int x) := l4
  have m5 : setv lo 5 (.int 0) 5 = some (.int ((0 : Nat) : Int)) := rfl
  generalize setv lo 5 (.int 0) = lo1 at C1 m4 m5
  refine S_own S1 (z_gr (k := 0) S1 (List.mem_cons_self ..) C1 hn (z_int (x := ((0 : Nat) : Int))) (by (first | lia | omega)) m4 (Nat.lt_trans (sm _) (by decide))) fun hp2 aG S2 => ?_
  have C2 := C1.to (lo' := setv lo1 6 (.ref aG)) (Ext.refl _) fun j hj => setv_ne _ _ (by (first | lia | omega))
  refine s_next (ce_while (kt := grow (tab u) x) (ln := shp (tab u) (grow (tab u) x)) (Gf := Fin G 0 (ins (tab u) x)) ⟨C2, m4, m5, ⟨aG, rfl, S2⟩, hA, Nat.zero_add _, rfl, rfl, sm⟩ hn hkt fun lo' hp3 G' y' C3 n4 n5 S3 hl hf hsm => ?_)
  unfold ceEnd
  have S4 : Sep hb [LH aC cs, RM as G', R0] hp3 := S3.perm (.swap ..)
  refine s_next (S_append S4 C3.l3 (by (first | lia | omega)) (z_cast (z_add (z_mul (z_nameI n5) (z_nameI C3.l1) (.inr (by (first | lia | omega)))) (z_len (z_rowK (G := G') S4 (by simp) C3.hla hn C3.l2 (z_nameI n5) hkt))) (y := pc wd (grow (tab u) x) (shp (tab u) (grow (tab u) x))) (by unfold pc; rw [Int.natCast_add, Int.natCast_mul, ← hl])) fun hp5 S5 => ?_)
  refine S_rowApp (S5.perm (.swap ..)) C3.hla hn C3.l2 (z_nameI n4) (z_nameI n5) hkt (Nat.lt_trans (hsm _) (by decide)) fun hp6 S6 => ?_
  rw [hf] at S6
  refine K lo' hp6 _ C3 S6 fun i => ?_
  rw [tab_snoc]
  unfold Fin
  rw [if_neg (Nat.not_lt_zero _), Nat.zero_add, Nat.sub_zero]
theorem cells_spec {Q : AV → AH → Prop} {E : Ex → AH → Prop} {am : Addr} {u : List Int} (s : Ext hb hp) (hw : wd < 1000) (hu : u.length < 100) (ham : hb am = some (.list (intsA u)))
    (k : ∀ hb' hp' a, Gr hb hp hb' hp' → hb' a = some (.list (intsA (Qc wd u))) → Q (.ref a) hp') : fp_cells [.ref am, .int wd] Q E hp := by
  refine ⟨rfl, ?_⟩
  refine (fun (H : ∀ lo : Loc, lo 0 = some (.ref am) → lo 1 = some (.int (wd : Int)) → pt_cells (fun fl σ => Q (retV fl) σ.hp) (fun ex σ => E ex σ.hp) ⟨lo, hp⟩) => H _ rfl rfl) fun lo l0 l1 => ?_
  rw [cells_eq]
  have S0 := Sep.begin s
  refine s_next (A := sAssign _ _) (s_compM (T := VI) (R := VI) (f := fun _ => ([] : List Int)) (hb := hb) (fun x v hp hp' h => h) (zs_range (n := u.length + 1) (z_cast (z_add (z_len (z_nameL l0 ham)) (z_int (x := 1))) (by (first | lia | omega))) (by (first | lia | omega))) s (by rw [len_keysN]; (first | lia | omega)) (fun x _ v hb1 _ _ => zf_list zi_nil (by decide)) fun hp1 la as M e1 zla hna hal hn hfr hla eM hM => ?_)
  rw [len_keysN] at hal
  have S1 := S0.mat e1 zla hna hfr hla eM
  have eG : MHv as M = RM as (fun _ => []) := mh_congr hn fun i hi => by
    rw [hal] at hi
    exact (hM i i (get_keysN hi)).nil_inv
  rw [eG] at S1
  dsimp only [aName]
  refine S_nil S1 fun hp2 aC S2 => ?_
  have ham2 : upd hb la (.list (as.map .ref)) am = some (.list (intsA u)) := Ext.new (.list (as.map .ref)) (s.none zla) _ _ ham
  have m0 : setv (setv lo 2 (.ref la)) 3 (.ref aC) 0 = some (.ref am) := l0
  have C0 : CE wd as la aC (setv (setv lo 2 (.ref la)) 3 (.ref aC)) (upd hb la (.list (as.map .ref))) := ⟨l1, rfl, rfl, upd_self ..⟩
  have eb : Ext hb (upd hb la (.list (as.map .ref))) := Ext.new _ (s.none zla)
  generalize setv (setv lo 2 (.ref la)) 3 (.ref aC) = lo1 at m0 C0
  generalize upd hb la (.list (as.map .ref)) = hbl at S2 ham2 C0 eb
  refine s_next (S_for S2 (zs_list (z_nameL m0 ham2)) (fun i lo2 hb2 hp2 => ∃ G, CE wd as la aC lo2 hb2 ∧ Sep hb2 [RM as G, LH aC (Qc wd (u.take i)), rst hp hb] hp2 ∧ At G 0 (tab (u.take i)) ∧ i ≤ u.length) ?_ ?_ ?_ ?_)
  · exact fun hb' hp' e' S' => ⟨fun _ => [], C0.to e' fun _ _ => rfl, S'.perm (.swap ..), fun i => rfl, Nat.zero_le _⟩
  · rintro i lo2 hb2 hp2 ⟨G, _, S, _⟩
    exact S.s
  · rintro i x v lo2 hb2 hp2 P hi e2 rfl ⟨G, C, S, A, _⟩ KK
    obtain ⟨hlt, he⟩ := List.getElem?_eq_some_iff.mp hi
    have et : u.take (i + 1) = u.take i ++ [x] := by rw [take_next hlt, he]
    have hlen : (u.take i).length = i := by rw [List.length_take]; (first | lia | omega)
    dsimp only [aName]
    refine ce_body (lo := setv lo2 4 (.int x)) (C.to (Ext.refl _) fun j hj => setv_ne _ _ (by (first | lia | omega))) S hn A (by (first | lia | omega)) (by (first | lia | omega)) hw (by show (cells _ _ _).length < _; rw [len_cells]; (first | lia | omega)) rfl fun lo' hp' G' C' S' A' => KK.n (Ext.refl _) ⟨G', C', ?_, by rw [et]; exact A', hlt⟩
    rw [et]
    have : Qc wd (u.take i ++ [x]) = Qc wd (u.take i) ++ [pc wd (grow (tab (u.take i)) x) (shp (tab (u.take i)) (grow (tab (u.take i)) x))] := cells_snoc
    rw [this]
    exact S'
  · rintro lo2 hb2 hp2 e2 ⟨G, C, S, A, _⟩
    rw [List.take_length] at S
    have S3 : Sep hb2 [LH aC (Qc wd u), rst hp hb] hp2 := S.drop
    obtain ⟨S4, e4, e5⟩ := S3.fix
    exact ⟨_, C.l3, k _ hp2 aC (S4.gr_end s (by simp) (eb.trans (e2.trans e4))) (e5 _ _ lh_self)⟩
end
end
section
theorem zf_rev {α : Type} {p : EP} {R : VR α} {lo : Loc} {hb : AH} {xs : List α} (h : Z p (VL R) xs lo hb) : ZF (pRev p) R xs.reverse lo hb := fun hp s Q E k =>
  h hp s _ _ fun hb2 hp2 v g hv => by
    obtain ⟨a, vs, rfl, ha, hx⟩ := hv
    refine ⟨a, vs, rfl, lst_of (g.s _ _ ha), fun b zb => ?_⟩
    have g2 := Gr.new g.s (.list vs.reverse) zb
    refine k _ _ _ (g.trans g2) ⟨b, _, rfl, g.e.none zb, upd_self .., ?_⟩
    have key : ∀ {xs : List α} {vs : List AV} {h : AH}, All2 R xs vs h → All2 R xs.reverse vs.reverse h := fun {xs} => by
      induction xs with
      | nil => intro vs h q; cases q.nil_inv; exact trivial
      | cons x l ih =>
        intro vs h q
        obtain ⟨v, vs, rfl, h1, h2⟩ := q.cons_inv
        rw [List.reverse_cons, List.reverse_cons]
        exact (show All2 R [x] [v] h from ⟨h1, trivial⟩).append (ih h2)
    exact (key hx).ext g2.b
theorem pick_drop {l : List Int} {i : Nat} (hi : i ≤ l.length) : pickL l (some (i : Int)) none = l.drop i := by
  have e1 : clipN (some (i : Int)) 0 l.length = i := by
    show (max 0 (min (if (i : Int) < 0 then (i : Int) + l.length else i) (l.length : Nat))).toNat = i
    rw [if_neg (by (first | lia | omega))]; (first | lia | omega)
  have e2 : clipN none l.length l.length = l.length := rfl
  unfold pickL
  rw [e1, e2]
  exact List.take_of_length_le (by rw [List.length_drop]; (first | lia | omega))
theorem pick_take {l : List Int} {i : Nat} (hi : i ≤ l.length) : pickL l none (some (i : Int)) = l.take i := by
  have e1 : clipN (some (i : Int)) l.length l.length = i := by
    show (max 0 (min (if (i : Int) < 0 then (i : Int) + l.length else i) (l.length : Nat))).toNat = i
    rw [if_neg (by (first | lia | omega))]; (first | lia | omega)
  have e2 : clipN none 0 l.length = 0 := rfl
  unfold pickL
  rw [e1, e2]
  rfl
theorem len_CC {h w : Nat} {c1 c2 : List Int} : (CC h w c1 c2).length = c2.length + c1.length := by
  unfold CC tr vOfC
  rw [List.length_append, len_cells, List.length_reverse, List.length_map, List.length_map, len_cells, List.length_reverse, List.length_map]
noncomputable def lwTurn : SP := (sSeq (sIf (tOf (pBin opGt (pName 6) (pInt 0))) (sAssign (pCall fp_lround (lCons (pName 2) (lCons (pName 3) (lCons (pName 4) lNil)))) (aName 4)) sNil) (sSeq (sAssign (pCall fp_cells (lCons (pSlice (pName 5) (pName 6) pNone) (lCons (pName 3) lNil))) (aName 7)) (sSeq (sAssign (pCall fp_cells (lCons (pRev (pComp [none] (iSeq (pSlice (pName 5) pNone (pName 6))) (aName 0) (cTest none (cEmit (pUn opNeg (pName 0)))))) (lCons (pName 3) lNil))) (aName 8)) (sIf (tOf (pBin opNe (pName 4) (pBin opAdd (pName 7) (pRev (pComp [none, some 2, some 3] (iSeq (pName 8)) (aName 0) (cTest none (cEmit (pBin opSub (pBin opSub (pBin opMul (pName 1) (pName 2)) (pInt 1)) (pName 0))))))))) (sRet (pBool false)) sNil))))
structure LT (h w : Nat) (c cur : List Int) (lo : Loc) (hb : AH) : Prop where
  l2 : lo 2 = some (.int h)
  l3 : lo 3 = some (.int w)
  l4 : ∃ a, lo 4 = some (.ref a) ∧ hb a = some (.list (intsA cur))
  l5 : ∃ a, lo 5 = some (.ref a) ∧ hb a = some (.list (intsA (c.map (mkp h w))))
section
variable {h w i : Nat} {c cur : List Int} {lo : Loc} {hb hp : AH} {Q : Fl → St → Prop} {E : Ex → St → Prop}
theorem s_cells {p : EP} {u : List Int} {j : Nat} {rest : SP} (S : Sep hb [] hp) (z : ZF p VI u lo hb) (l3 : lo 3 = some (.int w)) (hw : w < 1000) (hu : u.length < 100)
    (k : ∀ hb' hp' a, Ext hb hb' → Sep hb' [] hp' → hb' a = some (.list (intsA (Qc w u))) → rest Q E ⟨setv lo j (.ref a), hp'⟩) : (sSeq (sAssign (pCall fp_cells (lCons p (lCons (pName 3) lNil))) (aName j)) rest) Q E ⟨lo, hp⟩ := by
  dsimp only [sSeq, sAssign, pCall, lCons]
  refine z hp S.s _ _ fun hb1 hp1 v g1 hv => ?_
  obtain ⟨b1, rfl, _, hb1'⟩ := vf_ints.mp hv
  refine ⟨_, l3, ?_⟩
  dsimp only [lNil]
  refine cells_spec g1.s hw hu hb1' fun hb2 hp2 a g2 ha => ?_
  dsimp only [aName]
  exact k hb2 hp2 a (g1.b.trans g2.b) ⟨g2.s, nofun, nofun, List.Pairwise.nil⟩ ha
theorem lw_rest (L : LT h w c (CC h w (c.take i) (c.drop i)) lo hb) (S : Sep hb [] hp) (hw : 0 < w) (hh : h ≤ 6) (hw6 : w ≤ 6) (hc : c.length ≤ h * w) (hN : h * w ≤ 36) (hi : i ≤ c.length) (l6 : lo 6 = some (.int i))
    (k : ∀ lo' hb' hp', Ext hb hb' → Sep hb' [] hp' → LT h w c (CC h w (c.take i) (c.drop i)) lo' hb' → Q .next ⟨lo', hp'⟩) :
    (sSeq (sAssign (pCall fp_cells (lCons (pSlice (pName 5) (pName 6) pNone) (lCons (pName 3) lNil))) (aName 7)) (sSeq (sAssign (pCall fp_cells (lCons (pRev (pComp [none] (iSeq (pSlice (pName 5) pNone (pName 6))) (aName 0) (cTest none (cEmit (pUn opNeg (pName 0)))))) (lCons (pName 3) lNil))) (aName 8)) (sIf (tOf (pBin opNe (pName 4) (pBin opAdd (pName 7) (pRev (pComp [none, some 2, some 3] (iSeq (pName 8)) (aName 0) (cTest none (cEmit (pBin opSub (pBin opSub (pBin opMul (pName 1) (pName 2)) (pInt 1)) (pName 0))))))))) (sRet (pBool false)) sNil))) Q E ⟨lo, hp⟩ := by
  obtain ⟨a4, l4, h4⟩ := L.l4
  obtain ⟨a5, l5, h5⟩ := L.l5
  have l3 := L.l3
  have l2 := L.l2
  have hml : (c.map (mkp h w)).length = c.length := List.length_map ..
  have e1 : pickL (c.map (mkp h w)) (some (i : Int)) none = (c.drop i).map (mkp h w) := by rw [pick_drop (by (first | lia | omega)), List.map_drop]
  have e2 : pickL (c.map (mkp h w)) none (some (i : Int)) = (c.take i).map (mkp h w) := by rw [pick_take (by (first | lia | omega)), List.map_take]
  refine s_cells S (zf_cast (zf_slice (R := VI) (hb := hb) (l := some (i : Int)) (u := none) (z_nameL l5 h5) (z_bound (z_nameI l6)) z_noB) e1) l3 (by (first | lia | omega)) (by rw [List.length_map, List.length_drop]; (first | lia | omega)) fun hb2 hp2 a7 x2 S2 h7 => ?_
  have m5 : setv lo 7 (.ref a7) 5 = some (.ref a5) := l5
  have m6 : setv lo 7 (.ref a7) 6 = some (.int i) := l6
  have m3 : setv lo 7 (.ref a7) 3 = some (.int w) := l3
  have ev : ((((c.take i).map (mkp h w)).map neg).reverse) = vOfC h w (c.take i) := by unfold vOfC; rw [List.map_map]; rfl
  have zr := zf_cast (zf_rev (zf_compN (p := pUn opNeg (pName 0)) (mm := [none]) (f := neg) (S := VI) (R := VI) (hb := hb2) (lo := setv lo 7 (.ref a7)) (zs_list (zf_cast (zf_slice (R := VI) (hb := hb2) (l := none) (u := some (i : Int)) (z_nameL m5 (x2 _ _ h5)) z_noB (z_bound (z_nameI m6))) e2).z) (by rw [List.length_map, List.length_take]; (first | lia | omega)) (fun x _ v hb9 _ hr => by cases hr; exact z_neg (z_nameI rfl))).z) ev
  refine s_cells S2 zr m3 (by (first | lia | omega)) (by unfold vOfC; rw [List.length_reverse, List.length_map, List.length_take]; (first | lia | omega)) fun hb4 hp4 a8 x3 S4 h8 => ?_
  have x4 := x2.trans x3
  have n2 : setv (setv lo 7 (.ref a7)) 8 (.ref a8) 2 = some (.int h) := l2
  have n3 : setv (setv lo 7 (.ref a7)) 8 (.ref a8) 3 = some (.int w) := l3
  have n4 : setv (setv lo 7 (.ref a7)) 8 (.ref a8) 4 = some (.ref a4) := l4
  have n5 : setv (setv lo 7 (.ref a7)) 8 (.ref a8) 5 = some (.ref a5) := l5
  have n7 : setv (setv lo 7 (.ref a7)) 8 (.ref a8) 7 = some (.ref a7) := rfl
  have n8 : setv (setv lo 7 (.ref a7)) 8 (.ref a8) 8 = some (.ref a8) := rfl
  generalize setv (setv lo 7 (.ref a7)) 8 (.ref a8) = lo4 at n2 n3 n4 n5 n7 n8
  have lq : (Qc w (vOfC h w (c.take i))).length ≤ 36 := by
    rw [len_cells]; unfold vOfC; rw [List.length_reverse, List.length_map, List.length_take]; (first | lia | omega)
  have lp : (Qc w ((c.drop i).map (mkp h w))).length ≤ 36 := by
    rw [len_cells, List.length_map, List.length_drop]; (first | lia | omega)
  have zt : ZF (pRev (pComp [none, some 2, some 3] (iSeq (pName 8)) (aName 0) (cTest none (cEmit (pBin opSub (pBin opSub (pBin opMul (pName 1) (pName 2)) (pInt 1)) (pName 0)))))) VI (tr h w (Qc w (vOfC h w (c.take i)))) lo4 hb4 := by
    refine zf_rev (zf_compN (f := turn h w) (R := VI) (zs_list (z_nameL n8 h8)) (by (first | lia | omega)) fun x _ v hb9 _ hr => ?_).z
    cases hr
    exact z_sub (z_sub (z_mul (z_nameI n2) (z_nameI n3) (.inl (by (first | lia | omega)))) (z_int (x := 1))) (z_nameI rfl)
  have zn := zt_bool (z_neL (z_nameL n4 (x4 _ _ h4)) (zf_cat (z_nameL n7 (x3 _ _ h7)) zt.z (by unfold tr; rw [List.length_reverse, List.length_map]; (first | lia | omega))).z)
  refine s_if zn S4.s (fun hc => ?_) fun _ hb5 hp5 g5 => ?_
  · exfalso
    rw [show CC h w (c.take i) (c.drop i) = Qc w ((c.drop i).map (mkp h w)) ++ tr h w (Qc w (vOfC h w (c.take i))) from rfl, decide_eq_true rfl] at hc
    cases hc
  · have x5 := x4.trans g5.b
    exact k lo4 hb5 hp5 x5 ⟨g5.s, nofun, nofun, List.Pairwise.nil⟩ ⟨n2, n3, ⟨a4, n4, x5 _ _ h4⟩, a5, n5, x5 _ _ h5⟩
theorem lw_turn (L : LT h w c (CC h w (c.take (i - 1)) (c.drop (i - 1))) lo hb) (S : Sep hb [] hp) (hw : 0 < w) (hh : h ≤ 6) (hw6 : w ≤ 6) (hc : c.length = h * w) (hC : Crs h w c (full h w)) (hN : h * w ≤ 36) (hi : i ≤ c.length) (l6 : lo 6 = some (.int i))
    (k : ∀ lo' hb' hp', Ext hb hb' → Sep hb' [] hp' → LT h w c (CC h w (c.take i) (c.drop i)) lo' hb' → Q .next ⟨lo', hp'⟩) : lwTurn Q E ⟨lo, hp⟩ := by
  unfold lwTurn
  refine s_next (S_if S (zt_bool (z_gt (z_nameI l6) (z_int (x := 0)))) (fun hc0 hp1 S1 => ?_) fun hc0 hp1 S1 => ?_)
  · obtain ⟨a4, l4, h4⟩ := L.l4
    obtain ⟨r, rfl⟩ : ∃ r, i = r + 1 := ⟨i - 1, by simp at hc0; (first | lia | omega)⟩
    rw [Nat.add_sub_cancel] at h4
    have hlt : r < c.length := by (first | lia | omega)
    have ed : c.drop r = c[r] :: c.drop (r + 1) := List.drop_eq_getElem_cons hlt
    have hC' : Crs h w (c.take r ++ c[r] :: c.drop (r + 1)) (full h w) := by rw [← ed, List.take_append_drop]; exact hC
    obtain ⟨rest, er, R⟩ := cc_round hC'
    have et : c.take r ++ [c[r]] = c.take (r + 1) := (take_next hlt).symm
    rw [et] at R
    rw [ed, er] at h4
    refine ⟨_, L.l2, _, L.l3, _, l4, ?_⟩
    dsimp only [lNil]
    refine round_spec S1.s hw hN (by rw [len_CC, List.length_drop, List.length_take]; (first | lia | omega)) h4 R fun hb2 hp2 a g2 ha => ?_
    dsimp only [aName]
    refine lw_rest (lo := setv lo 4 (.ref a)) (i := r + 1) ⟨L.l2, L.l3, ⟨a, rfl, ha⟩, ?_⟩ ⟨g2.s, nofun, nofun, List.Pairwise.nil⟩ hw hh hw6 (by (first | lia | omega)) hN hi l6 fun lo' hb' hp' e' S' L' => k lo' hb' hp' (g2.b.trans e') S' L'
    obtain ⟨a5, l5, h5⟩ := L.l5
    exact ⟨a5, l5, g2.b _ _ h5⟩
  · have i0 : i = 0 := by simp at hc0; (first | lia | omega)
    subst i0
    exact lw_rest (i := 0) L S1 hw hh hw6 (by (first | lia | omega)) hN hi l6 k
end
theorem law_eq : pt_law = (sSeq (sAssign (pBin opItem (pBin opAdd (pName 0) (pList (lCons (pInt 0) lNil))) (pInt 0)) (aName 1)) (sSeq (sAssign (pBin opAdd (pInt 2) (pBin opMod (pName 1) (pInt 5))) (aName 2)) (sSeq (sAssign (pBin opAdd (pInt 2) (pBin opMod (pBin opDiv (pName 1) (pInt 5)) (pInt 5))) (aName 3)) (sSeq (sAssign (pCall fp_course (lCons (pName 2) (lCons (pName 3) (lCons (pBin opAdd (pSlice (pName 0) (pInt 1) pNone) (pBin opMul (pList (lCons (pInt 0) lNil)) (pInt 36))) lNil)))) (aName 4)) (sSeq (sAssign (pComp [none, some 2, some 3] (iSeq (pName 4)) (aName 0) (cTest none (cEmit (pBin opAdd (pBin opMul (pBin opSub (pBin opSub (pName 1) (pInt 1)) (pBin opDiv (pName 0) (pName 2))) (pName 2)) (pBin opMod (pName 0) (pName 2)))))) (aName 5)) (sSeq (sFor (iRange (lCons (pBin opAdd (pBin opMul (pName 2) (pName 3)) (pInt 1)) lNil)) (aName 6) lwTurn) (sRet (pBool true)))))))) := rfl
noncomputable def smN (f : Nat → Nat) : Nat → Nat
  | 0 => 0
  | n + 1 => smN f n + f n
theorem sm_inc {f : Nat → Nat} {a : Nat} : ∀ n, smN (inc f a) n = smN f n + (if a < n then 1 else 0)
  | 0 => rfl
  | n + 1 => by
    show smN (inc f a) n + inc f a n = smN f n + f n + _
    rw [sm_inc n]
    by_cases c : n = a
    · rw [c, inc_self, if_neg (Nat.lt_irrefl _), if_pos (Nat.lt_succ_self _)]; (first | lia | omega)
    · rw [inc_ne c]
      by_cases d : a < n
      · rw [if_pos d, if_pos (by (first | lia | omega))]; (first | lia | omega)
      · rw [if_neg d, if_neg (by (first | lia | omega))]; rfl
theorem sm_zero : ∀ n, smN (fun _ => 0) n = 0
  | 0 => rfl
  | n + 1 => sm_zero n
theorem sm_full {h w : Nat} : ∀ n, n ≤ h → smN (full h w) n = n * w
  | 0, _ => (Nat.zero_mul w).symm
  | n + 1, hn => by
    show smN (full h w) n + full h w n = _
    rw [sm_full n (by (first | lia | omega)), Nat.succ_mul]
    unfold full
    rw [if_pos (by (first | lia | omega))]
theorem Crs.full_len {h w : Nat} {c : List Int} (C : Crs h w c (full h w)) : c.length = h * w := by
  have key : ∀ {c : List Int} {f : Nat → Nat}, Crs h w c f → c.length = smN f h := fun C => by
    induction C with
    | nil => exact (sm_zero h).symm
    | snoc C B ih => rw [List.length_append, sm_inc, if_pos B.row, ih]; rfl
  rw [key C, sm_full h (Nat.le_refl _)]
theorem law_spec08 {hp : AH} {l : Addr} {ns : List Int} (hns : ns.length ≤ 63) (hl : hp l = some (.flist (intsA ns))) : pt_law (fun fl _ => retV fl = .bool true) noX ⟨fun i => [AV.ref l][i]?, hp⟩ := by
  refine (fun (H : ∀ lo : Loc, lo 0 = some (.ref l) → pt_law (fun fl _ => retV fl = .bool true) noX ⟨lo, hp⟩) => H _ rfl) fun lo l0 => ?_
  rw [law_eq]
  have S0 : Sep hp [] hp := ⟨Ext.refl _, nofun, nofun, List.Pairwise.nil⟩
  have zh : Z (pBin opItem (pBin opAdd (pName 0) (pList (lCons (pInt 0) lNil))) (pInt 0)) VI (hgt (ns ++ [0]) 0) lo (kn hp []) := z_item (zf_catF l0 hl (z_list (R := VI) (xs := [0]) (zi_cons z_int zi_nil) (by simp)) (by rw [List.length_singleton]; (first | lia | omega))).z (z_int (x := 0)) (by decide) (hgt_get (by decide) (by rw [List.length_append, List.length_singleton]; (first | lia | omega)))
  refine S_int S0 zh fun hp1 S1 => ?_
  generalize hgt (ns ++ [0]) 0 = hd at S1
  have q0 := Int.emod_nonneg hd (by decide : (5 : Int) ≠ 0)
  have q1 := Int.emod_lt_of_pos hd (by decide : (0 : Int) < 5)
  have q2 := Int.emod_nonneg (hd / 5) (by decide : (5 : Int) ≠ 0)
  have q3 := Int.emod_lt_of_pos (hd / 5) (by decide : (0 : Int) < 5)
  obtain ⟨h, hh⟩ : ∃ h : Nat, 2 + hd % 5 = h := ⟨(2 + hd % 5).toNat, by (first | lia | omega)⟩
  obtain ⟨w, hw⟩ : ∃ w : Nat, 2 + hd / 5 % 5 = w := ⟨(2 + hd / 5 % 5).toNat, by (first | lia | omega)⟩
  refine S_int S1 (x := (h : Int)) (z_cast (z_add (z_int (x := 2)) (z_mod (z_nameI (i := 1) rfl) (z_int (x := 5)) (by decide))) hh) fun hp2 S2 => ?_
  refine S_int S2 (x := (w : Int)) (z_cast (z_add (z_int (x := 2)) (z_mod (z_div (z_nameI (i := 1) (x := hd) rfl) (z_int (x := 5)) (by decide) (by decide)) (z_int (x := 5)) (by decide))) hw) fun hp3 S3 => ?_
  have m0 : setv (setv (setv lo 1 (.int hd)) 2 (.int h)) 3 (.int w) 0 = some (.ref l) := l0
  have m2 : setv (setv (setv lo 1 (.int hd)) 2 (.int h)) 3 (.int w) 2 = some (.int h) := rfl
  have m3 : setv (setv (setv lo 1 (.int hd)) 2 (.int h)) 3 (.int w) 3 = some (.int w) := rfl
  generalize setv (setv (setv lo 1 (.int hd)) 2 (.int h)) 3 (.int w) = lo1 at m0 m2 m3
  have h6 : h ≤ 6 := by (first | lia | omega)
  have w6 : w ≤ 6 := by (first | lia | omega)
  have w0 : 0 < w := by (first | lia | omega)
  have hN : h * w ≤ 36 := Nat.mul_le_mul h6 w6
  clear q0 q1 q2 q3 hh hw zh
  have hpk : (pickL ns (some 1) none).length ≤ ns.length := by
    unfold pickL
    exact Nat.le_trans (List.length_take_le' ..) (by rw [List.length_drop]; exact Nat.sub_le ..)
  have zp := zf_cat (zf_sliceF (hb := hp) (l := some 1) (u := none) m0 hl (z_bound (z_int (x := 1))) z_noB).z (zf_mul (R := VI) (xs := [0]) (z_list (zi_cons (z_int (x := 0)) zi_nil) (by decide)) (z_int (x := 36)) (by decide) (by decide) (by decide)).z (by
    have : (List.replicate (36 : Int).toNat [(0 : Int)]).flatten.length = 36 := by decide
    rw [this]; (first | lia | omega))
  have hps : 36 ≤ (pickL ns (some 1) none ++ (List.replicate (36 : Int).toNat [(0 : Int)]).flatten).length := by
    have : (List.replicate (36 : Int).toNat [(0 : Int)]).flatten.length = 36 := by decide
    rw [List.length_append, this]; (first | lia | omega)
  generalize pickL ns (some 1) none ++ (List.replicate (36 : Int).toNat [(0 : Int)]).flatten = ps at zp hps
  refine s_next (A := sAssign _ _) ⟨_, m2, _, m3, zp hp3 S3.s _ _ fun hb4 hp4 v g4 hv => ?_⟩
  obtain ⟨ap, rfl, _, hap⟩ := vf_ints.mp hv
  dsimp only [lNil]
  refine course_spec g4.s w0 hN (by (first | lia | omega)) hap fun hb5 hp5 a4 c g5 h4 hC => ?_
  dsimp only [aName]
  have hcl := hC.full_len
  have n2 : setv lo1 4 (.ref a4) 2 = some (.int h) := m2
  have n3 : setv lo1 4 (.ref a4) 3 = some (.int w) := m3
  have n4 : setv lo1 4 (.ref a4) 4 = some (.ref a4) := rfl
  generalize setv lo1 4 (.ref a4) = lo2 at n2 n3 n4
  have S5 : Sep hb5 [] hp5 := ⟨g5.s, nofun, nofun, List.Pairwise.nil⟩
  have zm : ZF (pComp [none, some 2, some 3] (iSeq (pName 4)) (aName 0) (cTest none (cEmit (pBin opAdd (pBin opMul (pBin opSub (pBin opSub (pName 1) (pInt 1)) (pBin opDiv (pName 0) (pName 2))) (pName 2)) (pBin opMod (pName 0) (pName 2)))))) VI (c.map (mkp h w)) lo2 hb5 := by
    refine zf_compN (f := mkp h w) (R := VI) (zs_list (z_nameL n4 h4)) (by (first | lia | omega)) fun x _ v hb9 _ hr => ?_
    cases hr
    exact z_add (z_mul (z_sub (z_sub (z_nameI n2) (z_int (x := 1))) (z_div (z_nameI (i := 0) rfl) (z_nameI n3) (by (first | lia | omega)) (by (first | lia | omega)))) (z_nameI n3) (.inr (by (first | lia | omega)))) (z_mod (z_nameI (i := 0) rfl) (z_nameI n3) (by (first | lia | omega)))
  refine S_set S5 zm.z fun hb6 hp6 v e6 S6 hv6 => ?_
  obtain ⟨a5, rfl, h5⟩ := vl_ints.mp hv6
  have L0 : LT h w c (CC h w (c.take (0 - 1)) (c.drop (0 - 1))) (setv lo2 5 (.ref a5)) hb6 := ⟨n2, n3, ⟨a4, n4, by
    show _ = some (AObj.list (intsA (CC h w [] c)))
    rw [cc_first w0 hC]; exact e6 _ _ h4⟩, a5, rfl, h5⟩
  refine s_next (S_for S6 (zs_range (n := h * w + 1) (z_cast (z_add (z_mul (z_nameI L0.l2) (z_nameI L0.l3) (.inl (by (first | lia | omega)))) (z_int (x := 1))) (by rw [← Int.natCast_mul]; rfl)) (by (first | lia | omega))) (fun i lo2 hb2 hp2 => Sep hb2 [] hp2 ∧ LT h w c (CC h w (c.take (i - 1)) (c.drop (i - 1))) lo2 hb2) ?_ ?_ ?_ ?_)
  · exact fun hb' hp' e' S' => ⟨S', L0.l2, L0.l3, ⟨a4, n4, by
      obtain ⟨b, hb1, hb2⟩ := L0.l4
      have : b = a4 := by have := hb1.symm.trans (n4 : setv lo2 5 (.ref a5) 4 = some (.ref a4)); cases this; rfl
      subst this
      exact e' _ _ hb2⟩, a5, rfl, e' _ _ h5⟩
  · exact fun i lo2 hb2 hp2 q => q.1.s
  · rintro i x v lo3 hb3 hp3 P hi e3 rfl ⟨S3, L3⟩ KK
    obtain ⟨hlt, _⟩ := List.getElem?_eq_some_iff.mp hi
    rw [len_keysN] at hlt
    rw [get_keysN hlt] at hi
    cases hi
    dsimp only [aName]
    refine lw_turn (lo := setv lo3 6 (.int i)) (i := i) ⟨L3.l2, L3.l3, L3.l4, L3.l5⟩ S3 w0 h6 w6 hcl hC hN (by (first | lia | omega)) rfl fun lo' hb' hp' e' S' L' => KK.n e' ⟨S', L'⟩
  · exact fun lo3 hb3 hp3 e3 q => rfl
end
section
theorem pok08 {P : PC} (hK : P.K = KK P.w.params) (hS : P.cS = 137) (hN : P.cN = 40) : POk P where
  sGet := fun k hk => by
    rw [hK, hS]
    match k, hk with
    | 0, _ => exact ⟨by kernel_rfl, by kernel_rfl, by kernel_rfl⟩
    | 1, _ => exact ⟨by kernel_rfl, by kernel_rfl, by kernel_rfl⟩
    | 2, _ => exact ⟨by kernel_rfl, by kernel_rfl, by kernel_rfl⟩
    | 3, _ => exact ⟨by kernel_rfl, by kernel_rfl, by kernel_rfl⟩
  sDict := by rw [hK, hS]; kernel_rfl
  sSet := by rw [hK, hS]; kernel_rfl
  sOver := by rw [hK, hS]; kernel_rfl
  nSet := by rw [hK, hN]; kernel_rfl
  nOver := by rw [hK, hN]; kernel_rfl
  nCls := by rw [hK, hN]; kernel_rfl
  nSlot := fun k hk => by
    rw [hK, hN]
    match k, hk with
    | 0, _ => exact ⟨41, by kernel_rfl, by kernel_rfl, by kernel_rfl, by kernel_rfl, by kernel_rfl, by kernel_rfl, by kernel_rfl⟩
    | 1, _ => exact ⟨42, by kernel_rfl, by kernel_rfl, by kernel_rfl, by kernel_rfl, by kernel_rfl, by kernel_rfl, by kernel_rfl⟩
    | 2, _ => exact ⟨43, by kernel_rfl, by kernel_rfl, by kernel_rfl, by kernel_rfl, by kernel_rfl, by kernel_rfl, by kernel_rfl⟩
noncomputable def freeB (p : Program) (loose : List Str) (x : Str) : Bool := !startupNames.contains x && !loose.contains x && !((recsOf p).map (·.name)).contains x && !((litsOf p).map (·.1)).contains x && !((clssOf p loose).map (·.name)).contains x && x != "__name__"
theorem free_of {P : PC} {x : Str} (h : freeB P.p P.loose x = true) : freeName P x := by
  unfold freeB at h
  simp only [Bool.and_eq_true, Bool.not_eq_true', bne_iff_ne, ne_eq, List.contains_eq_mem, decide_eq_false_iff_not] at h
  obtain ⟨⟨⟨⟨⟨h1, h2⟩, h3⟩, h4⟩, h5⟩, h6⟩ := h
  exact ⟨h1, h2, h3, h4, h5, h6⟩
theorem free08 : freeNames.all (freeB vw (looseW vw [Str.ofString "_NodeInfo"])) = true := by decide +kernel

theorem join08 (D : FD) (pt : SP) (hdp : D.depth ≤ 20) (hn : 1 ≤ D.vars.length)
    (hent : ∀ (P : PC) (hK : P.K = KK P.w.params) (hP : POk P) (hF : ∀ x ∈ freeNames, freeName P x) (hS : P.cS = 137) (hN : P.cN = 40) (hE : P.cE = 55), ∃ fd, fdAt? P.K 179 = some fd ∧ fnOkB P.K fd D = true ∧ SimSs P D (bodyOf fd) pt ∧ ∀ (l : Addr) (s : Shared), BindsTo s fd ⟨[.ref l], []⟩ ((D.vars.map (·.1)).zip [.ref l]))
    (hlaw : ∀ (l : Addr) (ns : List Int), ns.length ≤ 63 → pt (fun fl _ => retV fl = .bool true) noX ⟨fun i => [AV.ref l][i]?, fun b => if b = l then some (.flist (intsA ns)) else none⟩) : PySem.Challenge.rw_dm0130_08.Holds := by
  refine holds_law (by kernel_rfl) fun said => ?_
  refine holds_open (q := vw) (loose := [Str.ofString "_NodeInfo"]) (Xt := fun s => xlAt vw [] s && recOk (RowW.records Challenge.rw_dm0130_08.row.toRowW) s) (XP := XL vw []) (Yf := Hook.obs (kHook KK KA KA_eq)) (Ya := Hook.val (kHook KK KA KA_eq)) (YP := Hook.says (kHook KK KA KA_eq)) (N := 2504) left08 (Hook.of (kHook KK KA KA_eq)) (Hook.keeps (kHook KK KA KA_eq)) (fun s e => xl_of s (Bool.and_eq_true_iff.mp e).1) XL.keeps (by rfl) (by rfl) (by rfl) (fun s e => recFacts_of (Bool.and_eq_true_iff.mp e).2) (by rfl) (by first | assumption | decide +kernel) (by decide +kernel) ⟨rfl, rfl, rfl, rfl, rfl, by decide +kernel⟩ ?hw ?hc
  case hw => w_witness2
  case hc =>
  intro w s₀ s₁ mg mb G Y fa o pm cd doc dV kV ho hd' hcd hD hmg hg args vals as hpre hlay hrd hwl hlo
  have KX := kIn_of Y
  refine Ground.open G ?_
  intro T B D' TE TW
  have hfa : fa = 179 := by
    have h1 : mg "law" = some (.ref 179) := mg_of KX T.g (by kernel_rfl)
    have h2 : mg "law" = some (.ref fa) := hmg
    rw [h1] at h2
    cases h2
    rfl
  clear ho hd' hcd hD hmg
  subst hfa
  wrow_args hpre hlay hrd hwl hlo
  rename_i ns hs1 hs2 hs3 hs4 hs5 as1 as2 l us as3 hL ra w1 r0 hI hr hc hc'
  refine enter_call ?_
  let P : PC := { prog := Challenge.rw_dm0130_08.row.prog, w := w, K := KK w.params, p := vw, loose := looseW vw [Str.ofString "_NodeInfo"], mean := ExcName.means s₀.heap, mg := mg, mb := mb, cS := 137, cN := 40, cE := 55 }
  obtain ⟨fd, e1, e2, e3, e4⟩ := hent P rfl (pok08 rfl rfl rfl) (fun x hx => free_of (List.all_eq_true.mp free08 x hx)) rfl rfl rfl
  refine codeAny_mono (entry_sim (P := P) (Q := fun av => av = .bool true) e1 e2 e3 hn (e4 l s₁) KX T hg hL hI (by (first | lia | omega)) hdp (hlaw l ns (by (first | lia | omega)))) ?_
  rintro r s' ⟨v, av, rfl, hrep, rfl, hk, hgen, hos⟩
  have hv : v = .bool true := hrep
  subst hv
  refine ⟨.inl ⟨_, .bool true, [], rfl, fun cls => rfl, by constructor, by kernel_rfl, fun _ => ⟨List.nodup_nil, fun a ha => by cases ha⟩⟩, .of_keep hk, hos, .of_eq hgen⟩
end
end Mine

theorem PySem.Challenge.cw_dm0130_08_holds : PySem.Challenge.rw_dm0130_08.Holds :=
  Mine.join08 Mine.D_law Mine.pt_law (by decide) (by decide) Mine.ent_law (fun l ns h => Mine.law_spec08 h (if_pos rfl))

