import JvmDerived
import JvmDerived.Pilot.@@N@@Statement
import JvmDerived.Pilot.@@N@@Code
set_option linter.unusedVariables false
set_option linter.unusedSimpArgs false
namespace Jvm.Pilot.@@N@@
open Jvm Jvm.ClassFile Sem Op Lib Jvm.Free Jvm.Stand Jvm.LawKit Jvm.RoadKit Bundle Jvm.Pilot.@@N@@.Jvm.D
/-! OWN KIT 1: the fresh part of the heap: a list of (address, what its cell is) -/
abbrev Hp : Type := List (Addr × (Cell → Prop))
def Own (Z : State) (h : Heap) (M : Hp) : Prop := Ext Z.heap h ∧ (∀ (i : Nat) x, M[i]? = some x → Z.heap.size ≤ x.1 ∧ ∃ c : Cell, h[x.1]? = some c ∧ x.2 c) ∧ ∀ (i j : Nat) x y, M[i]? = some x → M[j]? = some y → x.1 = y.1 → i = j
theorem Own.ch {Z : State} {h h' : Heap} {M : Hp} {i : Nat} {a : Addr} {P P' : Cell → Prop} (O : Own Z h M) (hi : M[i]? = some (a, P)) (hs : h.size ≤ h'.size) (hk : ∀ (x : Addr) (c : Cell), h[x]? = some c → x ≠ a → h'[x]? = some c) (hc : ∃ c : Cell, h'[a]? = some c ∧ P' c) : Own Z h' (M.set i (a, P')) := by
  obtain ⟨o1, o2, o3⟩ := O
  have hil : i < M.length := (List.getElem?_eq_some_iff.mp hi).1
  have key : ∀ (j : Nat) x, (M.set i (a, P'))[j]? = some x → (j = i ∧ x = (a, P')) ∨ (j ≠ i ∧ M[j]? = some x) := by
    intro j x hx
    by_cases e : j = i
    · subst e
      rw [List.getElem?_set_self hil] at hx
      exact Or.inl ⟨rfl, (Option.some.inj hx).symm⟩
    · rw [List.getElem?_set_ne (Ne.symm e)] at hx
      exact Or.inr ⟨e, hx⟩
  refine ⟨⟨Nat.le_trans o1.1 hs, fun x c hx => hk x c (o1.2 x c hx) ?_⟩, fun j x hx => ?_, fun j j' x y hx hy e => ?_⟩
  · have h1 := (Array.getElem?_eq_some_iff.mp hx).1
    have h2 := (o2 i _ hi).1
    exact Nat.ne_of_lt (Nat.lt_of_lt_of_le h1 h2)
  · rcases key j x hx with ⟨rfl, rfl⟩ | ⟨ne, hx'⟩
    · exact ⟨(o2 j _ hi).1, hc⟩
    · obtain ⟨q1, c, q2, q3⟩ := o2 j x hx'
      exact ⟨q1, c, hk _ _ q2 (fun e => ne (o3 j i _ _ hx' hi e)), q3⟩
  · rcases key j x hx with ⟨rfl, rfl⟩ | ⟨ne, hx'⟩ <;> rcases key j' y hy with ⟨rfl, rfl⟩ | ⟨ne', hy'⟩
    · rfl
    · exact o3 _ _ _ _ hi hy' e
    · exact o3 _ _ _ _ hx' hi e
    · exact o3 _ _ _ _ hx' hy' e
theorem Own.upd {Z : State} {h h' : Heap} {M : Hp} {i : Nat} {a : Addr} {P P' : Cell → Prop} {sl : Nat} {v : Value} (O : Own Z h M) (hi : M[i]? = some (a, P)) (W : Wr h h' a sl v) (q : ∀ c : Cell, h[a]? = some c → P c → P' (c.setSlot sl v)) : Own Z h' (M.set i (a, P')) := by
  refine O.ch hi (Nat.le_of_eq W.size.symm) (fun x c hx ne => ?_) ?_
  · obtain ⟨c', e1, -, -, -, e5, -⟩ := wr_at W hx
    rw [e1, e5 ne]
  · obtain ⟨-, c, h1, h2⟩ := O.2.1 i _ hi
    obtain ⟨c', e1, -, -, -, -, -, e7⟩ := wr_at W h1
    exact ⟨c', e1, by rw [(e7 rfl).1]; exact q c h1 h2⟩
theorem Own.new {Z : State} {h h' : Heap} {M : Hp} {P : Cell → Prop} {c : Cell} (O : Own Z h M) (E : Ext h h') (hc : h'[h.size]? = some c) (q : P c) : Own Z h' ((h.size, P) :: M) := by
  obtain ⟨o1, o2, o3⟩ := O
  have lt : ∀ (j : Nat) x, M[j]? = some x → x.1 < h.size := fun j x hx => by
    obtain ⟨-, c, h1, -⟩ := o2 j x hx
    exact (Array.getElem?_eq_some_iff.mp h1).1
  refine ⟨⟨Nat.le_trans o1.1 E.1, fun x c hx => E.2 _ _ (o1.2 x c hx)⟩, fun j x hx => ?_, fun j j' x y hx hy e => ?_⟩
  · cases j with
    | zero => cases hx; exact ⟨o1.1, c, hc, q⟩
    | succ j => obtain ⟨q1, c, q2, q3⟩ := o2 j x hx; exact ⟨q1, c, E.2 _ _ q2, q3⟩
  · cases j <;> cases j'
    · rfl
    · cases hx; exact absurd e (Nat.ne_of_gt (lt _ _ hy))
    · cases hy; exact absurd e (Nat.ne_of_lt (lt _ _ hx))
    · exact congrArg _ (o3 _ _ _ _ hx hy e)
theorem Own.perm {Z : State} {h : Heap} {M M' : Hp} (O : Own Z h M) (p : M.Perm M') : Own Z h M' := by
  obtain ⟨o1, o2, o3⟩ := O
  have nd : (M.map Prod.fst).Nodup := by
    rw [List.nodup_iff_pairwise_ne, List.pairwise_iff_getElem]
    intro i j hi hj lt e
    simp only [List.length_map] at hi hj
    simp only [List.getElem_map] at e
    exact absurd (o3 i j _ _ (List.getElem?_eq_getElem hi) (List.getElem?_eq_getElem hj) e) (Nat.ne_of_lt lt)
  have nd' : (M'.map Prod.fst).Nodup := (p.map _).nodup_iff.mp nd
  refine ⟨o1, fun i x hx => ?_, fun i j x y hx hy e => ?_⟩
  · obtain ⟨j, hj⟩ := List.mem_iff_getElem?.mp (p.mem_iff.mpr (List.mem_of_getElem? hx))
    exact o2 j x hj
  · rw [List.nodup_iff_pairwise_ne, List.pairwise_iff_getElem] at nd'
    obtain ⟨hi, rfl⟩ := List.getElem?_eq_some_iff.mp hx
    obtain ⟨hj, rfl⟩ := List.getElem?_eq_some_iff.mp hy
    rcases Nat.lt_trichotomy i j with lt | rfl | lt
    · exact (nd' i j (by simpa using hi) (by simpa using hj) lt (by simpa using e)).elim
    · rfl
    · exact (nd' j i (by simpa using hj) (by simpa using hi) lt (by simpa using e.symm)).elim
theorem Own.ne {Z : State} {h : Heap} {M : Hp} {i j : Nat} {a b : Addr} {P P' : Cell → Prop} (O : Own Z h M) (hi : M[i]? = some (a, P)) (hj : M[j]? = some (b, P')) (ne : i ≠ j) : a ≠ b := fun e => ne (O.2.2 i j _ _ hi hj e)
/-! what a cell is: an object of the class C with these fields; an array of ints (bytes, booleans ..), an array of longs -/
abbrev Fd : Type := String × String × String × Value
def Apart (Z : State) (fs : List Fd) : Prop := ∀ (i j : Nat) f g, fs[i]? = some f → fs[j]? = some g → Jvm.RoadKit.slotOf Z f.1 f.2.1 f.2.2.1 = Jvm.RoadKit.slotOf Z g.1 g.2.1 g.2.2.1 → i = j
def Obj (Z : State) (C : String) (fs : List Fd) (c : Cell) : Prop := (∀ (h : Heap) (a : Addr), h[a]? = some c → Exa Z h a C ∧ ∀ (i : Nat) f, fs[i]? = some f → Fld Z h a f.1 f.2.1 f.2.2.1 f.2.2.2) ∧ Apart Z fs
def ArI (Z : State) (ty : FieldType) (vs : List Int32) (c : Cell) : Prop := Z.isArrayOf c ty ∧ c.vm ≠ .unknown ∧ c.slots = (vs.map Value.int).toArray ∧ vs.length < 2 ^ 31 ∧ ∀ x ∈ vs, fits ty (.int x) = true
def ArL (Z : State) (vs : List Int64) (c : Cell) : Prop := Z.isArrayOf c .long ∧ c.vm ≠ .unknown ∧ c.slots = (vs.map Value.long).toArray ∧ vs.length < 2 ^ 31
theorem exa_at_cell {Z : State} {h h' : Heap} {a a' : Addr} {C : String} {c : Cell} (E : Exa Z h a C) (hc : h[a]? = some c) (hc' : h'[a']? = some c) : Exa Z h' a' C := by
  obtain ⟨c1, k, h1, r⟩ := E
  cases h1.symm.trans hc
  exact ⟨_, k, hc', r⟩
theorem fld_at_cell {Z : State} {h h' : Heap} {a a' : Addr} {C n d : String} {v : Value} {c : Cell} (E : Fld Z h a C n d v) (hc : h[a]? = some c) (hc' : h'[a']? = some c) : Fld Z h' a' C n d v := by
  obtain ⟨c1, cf, k, i, f, h1, r⟩ := E
  cases h1.symm.trans hc
  exact ⟨_, cf, k, i, f, hc', r⟩
theorem Obj.put {Z : State} {C O n d : String} {fs : List Fd} {c : Cell} {j : Nat} {v w : Value} (B : Obj Z C fs c) (hj : fs[j]? = some (O, n, d, w)) {h h' : Heap} {a : Addr} (hc : h[a]? = some c) (W : Wr h h' a (Jvm.RoadKit.slotOf Z O n d) v) : Obj Z C (fs.set j (O, n, d, v)) (c.setSlot (Jvm.RoadKit.slotOf Z O n d) v) := by
  obtain ⟨b1, b2⟩ := B
  have hl : j < fs.length := (List.getElem?_eq_some_iff.mp hj).1
  have key : ∀ (i : Nat) x, (fs.set j (O, n, d, v))[i]? = some x → (i = j ∧ x = (O, n, d, v)) ∨ (i ≠ j ∧ fs[i]? = some x) := by
    intro i x hx
    by_cases e : i = j
    · subst e; rw [List.getElem?_set_self hl] at hx; exact Or.inl ⟨rfl, (Option.some.inj hx).symm⟩
    · rw [List.getElem?_set_ne (Ne.symm e)] at hx; exact Or.inr ⟨e, hx⟩
  have hnew : h'[a]? = some (c.setSlot (Jvm.RoadKit.slotOf Z O n d) v) := by
    obtain ⟨c', e1, -, -, -, -, -, e7⟩ := wr_at W hc
    rw [e1, (e7 rfl).1]
  refine ⟨fun h2 a2 h2c => ⟨exa_at_cell ((b1 h a hc).1.wr W) hnew h2c, fun i f hf => ?_⟩, fun i i' f g hf hg e => ?_⟩
  · rcases key i f hf with ⟨rfl, rfl⟩ | ⟨ne, hf'⟩
    · exact fld_at_cell (((b1 h a hc).2 i _ hj).same W) hnew h2c
    · exact fld_at_cell (((b1 h a hc).2 i _ hf').other W (Or.inr fun e => ne (b2 i j _ _ hf' hj e))) hnew h2c
  · rcases key i f hf with ⟨rfl, rfl⟩ | ⟨ne, hf'⟩ <;> rcases key i' g hg with ⟨rfl, rfl⟩ | ⟨ne', hg'⟩
    · rfl
    · exact b2 _ _ _ _ hj hg' e
    · exact b2 _ _ _ _ hf' hj e
    · exact b2 _ _ _ _ hf' hg' e
theorem ArI.arr {Z : State} {ty : FieldType} {vs : List Int32} {c : Cell} {h : Heap} {a : Addr} (B : ArI Z ty vs c) (hc : h[a]? = some c) : Arr Z h a c ty := ⟨hc, B.1, B.2.1⟩
theorem ArL.arr {Z : State} {vs : List Int64} {c : Cell} {h : Heap} {a : Addr} (B : ArL Z vs c) (hc : h[a]? = some c) : Arr Z h a c .long := ⟨hc, B.1, B.2.1⟩
theorem ArI.size {Z : State} {ty : FieldType} {vs : List Int32} {c : Cell} (B : ArI Z ty vs c) : c.slots.size = vs.length := by rw [B.2.2.1]; simp
theorem ArL.size {Z : State} {vs : List Int64} {c : Cell} (B : ArL Z vs c) : c.slots.size = vs.length := by rw [B.2.2.1]; simp
theorem ArI.put {Z : State} {ty : FieldType} {vs : List Int32} {c : Cell} (B : ArI Z ty vs c) (j : Nat) {x : Int32} (hx : fits ty (.int x) = true) : ArI Z ty (vs.set j x) (c.setSlot j (.int x)) := by
  refine ⟨B.1, B.2.1, ?_, by simpa using B.2.2.2.1, fun y hy => ?_⟩
  · show c.slots.setIfInBounds j (.int x) = _
    rw [B.2.2.1]; apply Array.ext'; simp [List.map_set]
  · rcases List.mem_or_eq_of_mem_set hy with h | rfl
    · exact B.2.2.2.2 y h
    · exact hx
theorem ArL.put {Z : State} {vs : List Int64} {c : Cell} (B : ArL Z vs c) (j : Nat) {x : Int64} : ArL Z (vs.set j x) (c.setSlot j (.long x)) := by
  refine ⟨B.1, B.2.1, ?_, by simpa using B.2.2.2⟩
  show c.slots.setIfInBounds j (.long x) = _
  rw [B.2.2.1]; apply Array.ext'; simp [List.map_set]
/-! OWN KIT 2: where a run stands, and how it ends -/
abbrev Cx : Type := Program × Launch × Env × Room × State × MethodId × Array Value × List Frame × Method × Code × (Option Value → Hp → Prop)
def Wk (Z : State) : Cx → State → Nat → Nat → Hp → Prop
  | (p, l, e, R, s, m, args, below, meth, c, _), T, cn, sn, M => ∃ locs, Stand p l e R s m args below meth c T locs cn sn ∧ Fr Z.heap.size locs ∧ Own Z T.heap M
def Ends (Z : State) : Cx → State → Nat → Array Slot → List Value → Prop
  | (p, l, e, R, s, m, args, below, meth, c, Q), T, pc, Ls, st => ∃ t o, Steps p.tables e below (T.setTop (mkF m pc Ls st)) t ∧ t.status = .running ∧ Ended t below o ∧ ∃ v L, o = .returned v ∧ (Fr Z.heap.size L ∧ ∃ M, Q v M ∧ Own Z t.heap M) ∧ FrameEnd s o t L R.cells R.slots
/-- from this frame, over such a heap, the run ends as Q says -/
def Go (Z : State) (k : Cx) (cn sn : Nat) (M : Hp) (pc : Nat) (Ls : Array Slot) (st : List Value) : Prop := ∀ T, Wk Z k T cn sn M → Ends Z k T pc Ls st
def Tb (Z : State) : Prop := ∃ a0, ∀ d ∈ tables_1, d.before a0 Z = true
def Ok (Z : State) (k : Cx) (R : Room) (Q : Option Value → Hp → Prop) (y : MethodName) (b : ByteArray) (ml : Nat) (rt : Option FieldType) : Prop :=
  match k with
  | (p, l, e, R', s, m, args, below, meth, c, Q') => p.tables.exec = Jvm.exec ∧ Z.Warmed39 s.vm ∧ c.code = b ∧ c.maxLocals = ml ∧ s.vm.findClass y.cls = some m.cls ∧ meth.name = y.name ∧ meth.sig.returnType = rt ∧ meth.locks = false ∧ Tb Z ∧ R' = R ∧ Q' = Q
theorem Ok.tb {Z : State} {k : Cx} {R : Room} {Q : Option Value → Hp → Prop} {y : MethodName} {b : ByteArray} {ml : Nat} {rt : Option FieldType} (H : Ok Z k R Q y b ml rt) : Tb Z := by
  obtain ⟨p, l, e, R', s, m, args, below, meth, c, Q'⟩ := k
  exact H.2.2.2.2.2.2.2.2.1
section Kit
variable {ty : FieldType} {Z : State} {k : Cx} {R : Room} {Q : Option Value → Hp → Prop} {y : MethodName} {b : ByteArray} {ml : Nat} {rt : Option FieldType} {cn sn : Nat} {M : Hp} {pc pc' : Nat} {Ls : Array Slot} {st : List Value}
theorem mem {i : Nat} {d : Jvm.Cond} (h : tables_1[i]? = some d) : d ∈ tables_1 := List.mem_of_getElem? h
theorem Go.more {cn' sn' : Nat} (hc : cn ≤ cn') (hs : sn ≤ sn') (g : Go Z k cn' sn' M pc Ls st) : Go Z k cn sn M pc Ls st := by
  obtain ⟨p, l, e, R, s, m, args, below, meth, c, Q⟩ := k
  intro T w
  obtain ⟨locs, X, F, O⟩ := w
  exact g T ⟨locs, X.more hc hs, F, O⟩
theorem Go.perm {M' : Hp} (p : M.Perm M') (g : Go Z k cn sn M' pc Ls st) : Go Z k cn sn M pc Ls st := by
  obtain ⟨p', l, e, R, s, m, args, below, meth, c, Q⟩ := k
  intro T w
  obtain ⟨locs, X, F, O⟩ := w
  exact g T ⟨locs, X, F, O.perm p⟩
theorem Go.fact {φ : Prop} (f : ∀ h, Own Z h M → φ) (g : φ → Go Z k cn sn M pc Ls st) : Go Z k cn sn M pc Ls st := by
  obtain ⟨p', l, e, R, s, m, args, below, meth, c, Q⟩ := k
  intro T w
  have w' := w
  obtain ⟨locs, X, F, O⟩ := w
  exact g (f _ O) T w'
theorem Go.cast {pc2 : Nat} {Ls2 : Array Slot} {st2 : List Value} {M2 : Hp} (h1 : pc = pc2) (h2 : Ls = Ls2) (h3 : st = st2) (h4 : M = M2) (g : Go Z k cn sn M2 pc2 Ls2 st2) : Go Z k cn sn M pc Ls st := by
  subst h1 h2 h3 h4; exact g
theorem s_iloadn (H : Ok Z k R Q y b ml rt) {i : Fin 4} {z : Int32} (hd : decode b pc = .ok (.iload_n i, 1)) (hl : Ls[i.val]? = some (.val (.int z))) (hp : pc + 1 = pc') (g : Go Z k cn sn M pc' Ls (.int z :: st)) : Go Z k cn sn M pc Ls (st) := by
  obtain ⟨p, l, e, R', s, m, args, below, meth, c, Q'⟩ := k
  obtain ⟨hx, hZ, hby, -⟩ := H
  subst hp
  intro T w
  have w' := w
  obtain ⟨locs, X, F, O⟩ := w
  obtain ⟨t, o, hs, r⟩ := g T w'
  exact ⟨t, o, XS.iloadN X.here hx rfl (hb hby hd) hl hs, r⟩
theorem s_iload (H : Ok Z k R Q y b ml rt) {i : Nat} {z : Int32} (hd : decode b pc = .ok (.iload i, 2)) (hl : Ls[i]? = some (.val (.int z))) (hp : pc + 2 = pc') (g : Go Z k cn sn M pc' Ls (.int z :: st)) : Go Z k cn sn M pc Ls (st) := by
  obtain ⟨p, l, e, R', s, m, args, below, meth, c, Q'⟩ := k
  obtain ⟨hx, hZ, hby, -⟩ := H
  subst hp
  intro T w
  have w' := w
  obtain ⟨locs, X, F, O⟩ := w
  obtain ⟨t, o, hs, r⟩ := g T w'
  exact ⟨t, o, XS.iload X.here hx rfl (hb hby hd) hl hs, r⟩
theorem s_istoren (H : Ok Z k R Q y b ml rt) {i : Fin 4} {x : Int32} {L' : Int32 → Array Slot} (hd : decode b pc = .ok (.istore_n i, 1)) (hl : ∀ z, storeLocals Ls i.val (.int z) = some (L' z)) (hp : pc + 1 = pc') (g : ∀ z, z = x → Go Z k cn sn M pc' (L' z) st) : Go Z k cn sn M pc Ls (.int x :: st) := by
  obtain ⟨p, l, e, R', s, m, args, below, meth, c, Q'⟩ := k
  obtain ⟨hx, hZ, hby, -⟩ := H
  subst hp
  intro T w
  have w' := w
  obtain ⟨locs, X, F, O⟩ := w
  obtain ⟨t, o, hs, r⟩ := g x rfl T w'
  exact ⟨t, o, XS.istoreN X.here hx rfl (hb hby hd) rfl (hl x) hs, r⟩
theorem s_istore (H : Ok Z k R Q y b ml rt) {i : Nat} {x : Int32} {L' : Int32 → Array Slot} (hd : decode b pc = .ok (.istore i, 2)) (hl : ∀ z, storeLocals Ls i (.int z) = some (L' z)) (hp : pc + 2 = pc') (g : ∀ z, z = x → Go Z k cn sn M pc' (L' z) st) : Go Z k cn sn M pc Ls (.int x :: st) := by
  obtain ⟨p, l, e, R', s, m, args, below, meth, c, Q'⟩ := k
  obtain ⟨hx, hZ, hby, -⟩ := H
  subst hp
  intro T w
  have w' := w
  obtain ⟨locs, X, F, O⟩ := w
  obtain ⟨t, o, hs, r⟩ := g x rfl T w'
  exact ⟨t, o, XS.istore X.here hx rfl (hb hby hd) rfl (hl x) hs, r⟩
theorem s_lloadn (H : Ok Z k R Q y b ml rt) {i : Fin 4} {z : Int64} (hd : decode b pc = .ok (.lload_n i, 1)) (hl : Ls[i.val]? = some (.val (.long z))) (hp : pc + 1 = pc') (g : Go Z k cn sn M pc' Ls (.long z :: st)) : Go Z k cn sn M pc Ls (st) := by
  obtain ⟨p, l, e, R', s, m, args, below, meth, c, Q'⟩ := k
  obtain ⟨hx, hZ, hby, -⟩ := H
  subst hp
  intro T w
  have w' := w
  obtain ⟨locs, X, F, O⟩ := w
  obtain ⟨t, o, hs, r⟩ := g T w'
  exact ⟨t, o, XS.lloadN X.here hx rfl (hb hby hd) hl hs, r⟩
theorem s_lload (H : Ok Z k R Q y b ml rt) {i : Nat} {z : Int64} (hd : decode b pc = .ok (.lload i, 2)) (hl : Ls[i]? = some (.val (.long z))) (hp : pc + 2 = pc') (g : Go Z k cn sn M pc' Ls (.long z :: st)) : Go Z k cn sn M pc Ls (st) := by
  obtain ⟨p, l, e, R', s, m, args, below, meth, c, Q'⟩ := k
  obtain ⟨hx, hZ, hby, -⟩ := H
  subst hp
  intro T w
  have w' := w
  obtain ⟨locs, X, F, O⟩ := w
  obtain ⟨t, o, hs, r⟩ := g T w'
  exact ⟨t, o, XS.lload X.here hx rfl (hb hby hd) hl hs, r⟩
theorem s_lstoren (H : Ok Z k R Q y b ml rt) {i : Fin 4} {x : Int64} {L' : Int64 → Array Slot} (hd : decode b pc = .ok (.lstore_n i, 1)) (hl : ∀ z, storeLocals Ls i.val (.long z) = some (L' z)) (hp : pc + 1 = pc') (g : ∀ z, z = x → Go Z k cn sn M pc' (L' z) st) : Go Z k cn sn M pc Ls (.long x :: st) := by
  obtain ⟨p, l, e, R', s, m, args, below, meth, c, Q'⟩ := k
  obtain ⟨hx, hZ, hby, -⟩ := H
  subst hp
  intro T w
  have w' := w
  obtain ⟨locs, X, F, O⟩ := w
  obtain ⟨t, o, hs, r⟩ := g x rfl T w'
  exact ⟨t, o, XS.lstoreN X.here hx rfl (hb hby hd) rfl (hl x) hs, r⟩
theorem s_lstore (H : Ok Z k R Q y b ml rt) {i : Nat} {x : Int64} {L' : Int64 → Array Slot} (hd : decode b pc = .ok (.lstore i, 2)) (hl : ∀ z, storeLocals Ls i (.long z) = some (L' z)) (hp : pc + 2 = pc') (g : ∀ z, z = x → Go Z k cn sn M pc' (L' z) st) : Go Z k cn sn M pc Ls (.long x :: st) := by
  obtain ⟨p, l, e, R', s, m, args, below, meth, c, Q'⟩ := k
  obtain ⟨hx, hZ, hby, -⟩ := H
  subst hp
  intro T w
  have w' := w
  obtain ⟨locs, X, F, O⟩ := w
  obtain ⟨t, o, hs, r⟩ := g x rfl T w'
  exact ⟨t, o, XS.lstore X.here hx rfl (hb hby hd) rfl (hl x) hs, r⟩
theorem s_aloadn (H : Ok Z k R Q y b ml rt) {i : Fin 4} {v : Value} (hd : decode b pc = .ok (.aload_n i, 1)) (hl : Ls[i.val]? = some (.val v)) (hv : v.isRef = true) (hp : pc + 1 = pc') (g : Go Z k cn sn M pc' Ls (v :: st)) : Go Z k cn sn M pc Ls (st) := by
  obtain ⟨p, l, e, R', s, m, args, below, meth, c, Q'⟩ := k
  obtain ⟨hx, hZ, hby, -⟩ := H
  subst hp
  intro T w
  have w' := w
  obtain ⟨locs, X, F, O⟩ := w
  obtain ⟨t, o, hs, r⟩ := g T w'
  exact ⟨t, o, XS.aloadN X.here hx rfl (hb hby hd) hl hv hs, r⟩
theorem s_aload (H : Ok Z k R Q y b ml rt) {i : Nat} {v : Value} (hd : decode b pc = .ok (.aload i, 2)) (hl : Ls[i]? = some (.val v)) (hv : v.isRef = true) (hp : pc + 2 = pc') (g : Go Z k cn sn M pc' Ls (v :: st)) : Go Z k cn sn M pc Ls (st) := by
  obtain ⟨p, l, e, R', s, m, args, below, meth, c, Q'⟩ := k
  obtain ⟨hx, hZ, hby, -⟩ := H
  subst hp
  intro T w
  have w' := w
  obtain ⟨locs, X, F, O⟩ := w
  obtain ⟨t, o, hs, r⟩ := g T w'
  exact ⟨t, o, XS.aload X.here hx rfl (hb hby hd) hl hv hs, r⟩
theorem s_astoren (H : Ok Z k R Q y b ml rt) {i : Fin 4} {v : Value} {L' : Array Slot} (hd : decode b pc = .ok (.astore_n i, 1)) (hv : v.isRef = true) (hl : storeLocals Ls i.val v = some L') (hp : pc + 1 = pc') (g : Go Z k cn sn M pc' L' (st)) : Go Z k cn sn M pc Ls (v :: st) := by
  obtain ⟨p, l, e, R', s, m, args, below, meth, c, Q'⟩ := k
  obtain ⟨hx, hZ, hby, -⟩ := H
  subst hp
  intro T w
  have w' := w
  obtain ⟨locs, X, F, O⟩ := w
  obtain ⟨t, o, hs, r⟩ := g T w'
  exact ⟨t, o, XS.astoreN X.here hx rfl (hb hby hd) rfl hv hl hs, r⟩
theorem s_astore (H : Ok Z k R Q y b ml rt) {i : Nat} {v : Value} {L' : Array Slot} (hd : decode b pc = .ok (.astore i, 2)) (hv : v.isRef = true) (hl : storeLocals Ls i v = some L') (hp : pc + 2 = pc') (g : Go Z k cn sn M pc' L' (st)) : Go Z k cn sn M pc Ls (v :: st) := by
  obtain ⟨p, l, e, R', s, m, args, below, meth, c, Q'⟩ := k
  obtain ⟨hx, hZ, hby, -⟩ := H
  subst hp
  intro T w
  have w' := w
  obtain ⟨locs, X, F, O⟩ := w
  obtain ⟨t, o, hs, r⟩ := g T w'
  exact ⟨t, o, XS.astore X.here hx rfl (hb hby hd) rfl hv hl hs, r⟩
theorem s_iconst (H : Ok Z k R Q y b ml rt) {i : Int} {z : Int32} (hd : decode b pc = .ok (.iconst i, 1)) (hz : z = Int32.ofInt i) (hp : pc + 1 = pc') (g : Go Z k cn sn M pc' Ls (.int z :: st)) : Go Z k cn sn M pc Ls (st) := by
  obtain ⟨p, l, e, R', s, m, args, below, meth, c, Q'⟩ := k
  obtain ⟨hx, hZ, hby, -⟩ := H
  subst hp
  intro T w
  have w' := w
  obtain ⟨locs, X, F, O⟩ := w
  obtain ⟨t, o, hs, r⟩ := g T w'
  exact ⟨t, o, XS.iconst X.here hx rfl (hb hby hd) (hz ▸ hs), r⟩
theorem s_bipush (H : Ok Z k R Q y b ml rt) {i : Int} {z : Int32} (hd : decode b pc = .ok (.bipush i, 2)) (hz : z = (Int8.ofInt i).toInt32) (hp : pc + 2 = pc') (g : Go Z k cn sn M pc' Ls (.int z :: st)) : Go Z k cn sn M pc Ls (st) := by
  obtain ⟨p, l, e, R', s, m, args, below, meth, c, Q'⟩ := k
  obtain ⟨hx, hZ, hby, -⟩ := H
  subst hp
  intro T w
  have w' := w
  obtain ⟨locs, X, F, O⟩ := w
  obtain ⟨t, o, hs, r⟩ := g T w'
  exact ⟨t, o, XS.bipush X.here hx rfl (hb hby hd) (hz ▸ hs), r⟩
theorem s_sipush (H : Ok Z k R Q y b ml rt) {i : Int} {z : Int32} (hd : decode b pc = .ok (.sipush i, 3)) (hz : z = (Int16.ofInt i).toInt32) (hp : pc + 3 = pc') (g : Go Z k cn sn M pc' Ls (.int z :: st)) : Go Z k cn sn M pc Ls (st) := by
  obtain ⟨p, l, e, R', s, m, args, below, meth, c, Q'⟩ := k
  obtain ⟨hx, hZ, hby, -⟩ := H
  subst hp
  intro T w
  have w' := w
  obtain ⟨locs, X, F, O⟩ := w
  obtain ⟨t, o, hs, r⟩ := g T w'
  exact ⟨t, o, XS.sipush X.here hx rfl (hb hby hd) (hz ▸ hs), r⟩
theorem s_lconst (H : Ok Z k R Q y b ml rt) {i : Fin 2} {z : Int64} (hd : decode b pc = .ok (.lconst i, 1)) (hz : z = Int64.ofNat i) (hp : pc + 1 = pc') (g : Go Z k cn sn M pc' Ls (.long z :: st)) : Go Z k cn sn M pc Ls (st) := by
  obtain ⟨p, l, e, R', s, m, args, below, meth, c, Q'⟩ := k
  obtain ⟨hx, hZ, hby, -⟩ := H
  subst hp
  intro T w
  have w' := w
  obtain ⟨locs, X, F, O⟩ := w
  obtain ⟨t, o, hs, r⟩ := g T w'
  exact ⟨t, o, XS.lconst X.here hx rfl (hb hby hd) (hz ▸ hs), r⟩
theorem s_anull (H : Ok Z k R Q y b ml rt) (hd : decode b pc = .ok (.aconst_null, 1)) (hp : pc + 1 = pc') (g : Go Z k cn sn M pc' Ls (.null :: st)) : Go Z k cn sn M pc Ls (st) := by
  obtain ⟨p, l, e, R', s, m, args, below, meth, c, Q'⟩ := k
  obtain ⟨hx, hZ, hby, -⟩ := H
  subst hp
  intro T w
  have w' := w
  obtain ⟨locs, X, F, O⟩ := w
  obtain ⟨t, o, hs, r⟩ := g T w'
  exact ⟨t, o, XS.aconstNull X.here hx rfl (hb hby hd) hs, r⟩
theorem s_iadd (H : Ok Z k R Q y b ml rt) {x u : Int32} (hd : decode b pc = .ok (.iadd, 1)) (hp : pc + 1 = pc') (g : Go Z k cn sn M pc' Ls (.int (x + u) :: st)) : Go Z k cn sn M pc Ls (.int u :: .int x :: st) := by
  obtain ⟨p, l, e, R', s, m, args, below, meth, c, Q'⟩ := k
  obtain ⟨hx, hZ, hby, -⟩ := H
  subst hp
  intro T w
  have w' := w
  obtain ⟨locs, X, F, O⟩ := w
  obtain ⟨t, o, hs, r⟩ := g T w'
  exact ⟨t, o, XS.iadd X.here hx rfl (hb hby hd) rfl hs, r⟩
theorem s_isub (H : Ok Z k R Q y b ml rt) {x u : Int32} (hd : decode b pc = .ok (.isub, 1)) (hp : pc + 1 = pc') (g : Go Z k cn sn M pc' Ls (.int (x - u) :: st)) : Go Z k cn sn M pc Ls (.int u :: .int x :: st) := by
  obtain ⟨p, l, e, R', s, m, args, below, meth, c, Q'⟩ := k
  obtain ⟨hx, hZ, hby, -⟩ := H
  subst hp
  intro T w
  have w' := w
  obtain ⟨locs, X, F, O⟩ := w
  obtain ⟨t, o, hs, r⟩ := g T w'
  exact ⟨t, o, XS.isub X.here hx rfl (hb hby hd) rfl hs, r⟩
theorem s_imul (H : Ok Z k R Q y b ml rt) {x u : Int32} (hd : decode b pc = .ok (.imul, 1)) (hp : pc + 1 = pc') (g : Go Z k cn sn M pc' Ls (.int (x * u) :: st)) : Go Z k cn sn M pc Ls (.int u :: .int x :: st) := by
  obtain ⟨p, l, e, R', s, m, args, below, meth, c, Q'⟩ := k
  obtain ⟨hx, hZ, hby, -⟩ := H
  subst hp
  intro T w
  have w' := w
  obtain ⟨locs, X, F, O⟩ := w
  obtain ⟨t, o, hs, r⟩ := g T w'
  exact ⟨t, o, XS.imul X.here hx rfl (hb hby hd) rfl hs, r⟩
theorem s_iand (H : Ok Z k R Q y b ml rt) {x u : Int32} (hd : decode b pc = .ok (.iand, 1)) (hp : pc + 1 = pc') (g : Go Z k cn sn M pc' Ls (.int (x &&& u) :: st)) : Go Z k cn sn M pc Ls (.int u :: .int x :: st) := by
  obtain ⟨p, l, e, R', s, m, args, below, meth, c, Q'⟩ := k
  obtain ⟨hx, hZ, hby, -⟩ := H
  subst hp
  intro T w
  have w' := w
  obtain ⟨locs, X, F, O⟩ := w
  obtain ⟨t, o, hs, r⟩ := g T w'
  exact ⟨t, o, XS.iand X.here hx rfl (hb hby hd) rfl hs, r⟩
theorem s_ior (H : Ok Z k R Q y b ml rt) {x u : Int32} (hd : decode b pc = .ok (.ior, 1)) (hp : pc + 1 = pc') (g : Go Z k cn sn M pc' Ls (.int (x ||| u) :: st)) : Go Z k cn sn M pc Ls (.int u :: .int x :: st) := by
  obtain ⟨p, l, e, R', s, m, args, below, meth, c, Q'⟩ := k
  obtain ⟨hx, hZ, hby, -⟩ := H
  subst hp
  intro T w
  have w' := w
  obtain ⟨locs, X, F, O⟩ := w
  obtain ⟨t, o, hs, r⟩ := g T w'
  exact ⟨t, o, XS.ior X.here hx rfl (hb hby hd) rfl hs, r⟩
theorem s_ixor (H : Ok Z k R Q y b ml rt) {x u : Int32} (hd : decode b pc = .ok (.ixor, 1)) (hp : pc + 1 = pc') (g : Go Z k cn sn M pc' Ls (.int (x ^^^ u) :: st)) : Go Z k cn sn M pc Ls (.int u :: .int x :: st) := by
  obtain ⟨p, l, e, R', s, m, args, below, meth, c, Q'⟩ := k
  obtain ⟨hx, hZ, hby, -⟩ := H
  subst hp
  intro T w
  have w' := w
  obtain ⟨locs, X, F, O⟩ := w
  obtain ⟨t, o, hs, r⟩ := g T w'
  exact ⟨t, o, XS.ixor X.here hx rfl (hb hby hd) rfl hs, r⟩
theorem s_idiv (H : Ok Z k R Q y b ml rt) {x u : Int32} (hd : decode b pc = .ok (.idiv, 1)) (hu : u ≠ 0) (hp : pc + 1 = pc') (g : Go Z k cn sn M pc' Ls (.int (x / u) :: st)) : Go Z k cn sn M pc Ls (.int u :: .int x :: st) := by
  obtain ⟨p, l, e, R', s, m, args, below, meth, c, Q'⟩ := k
  obtain ⟨hx, hZ, hby, -⟩ := H
  subst hp
  intro T w
  have w' := w
  obtain ⟨locs, X, F, O⟩ := w
  obtain ⟨t, o, hs, r⟩ := g T w'
  exact ⟨t, o, XS.idiv X.here hx rfl (hb hby hd) rfl hu hs, r⟩
theorem s_ineg (H : Ok Z k R Q y b ml rt) {x : Int32} (hd : decode b pc = .ok (.ineg, 1)) (hp : pc + 1 = pc') (g : Go Z k cn sn M pc' Ls (.int (-x) :: st)) : Go Z k cn sn M pc Ls (.int x :: st) := by
  obtain ⟨p, l, e, R', s, m, args, below, meth, c, Q'⟩ := k
  obtain ⟨hx, hZ, hby, -⟩ := H
  subst hp
  intro T w
  have w' := w
  obtain ⟨locs, X, F, O⟩ := w
  obtain ⟨t, o, hs, r⟩ := g T w'
  exact ⟨t, o, XS.ineg X.here hx rfl (hb hby hd) rfl hs, r⟩
theorem s_ladd (H : Ok Z k R Q y b ml rt) {x u : Int64} (hd : decode b pc = .ok (.ladd, 1)) (hp : pc + 1 = pc') (g : Go Z k cn sn M pc' Ls (.long (x + u) :: st)) : Go Z k cn sn M pc Ls (.long u :: .long x :: st) := by
  obtain ⟨p, l, e, R', s, m, args, below, meth, c, Q'⟩ := k
  obtain ⟨hx, hZ, hby, -⟩ := H
  subst hp
  intro T w
  have w' := w
  obtain ⟨locs, X, F, O⟩ := w
  obtain ⟨t, o, hs, r⟩ := g T w'
  exact ⟨t, o, XS.ladd X.here hx rfl (hb hby hd) rfl hs, r⟩
theorem s_lsub (H : Ok Z k R Q y b ml rt) {x u : Int64} (hd : decode b pc = .ok (.lsub, 1)) (hp : pc + 1 = pc') (g : Go Z k cn sn M pc' Ls (.long (x - u) :: st)) : Go Z k cn sn M pc Ls (.long u :: .long x :: st) := by
  obtain ⟨p, l, e, R', s, m, args, below, meth, c, Q'⟩ := k
  obtain ⟨hx, hZ, hby, -⟩ := H
  subst hp
  intro T w
  have w' := w
  obtain ⟨locs, X, F, O⟩ := w
  obtain ⟨t, o, hs, r⟩ := g T w'
  exact ⟨t, o, XS.lsub X.here hx rfl (hb hby hd) rfl hs, r⟩
theorem s_lmul (H : Ok Z k R Q y b ml rt) {x u : Int64} (hd : decode b pc = .ok (.lmul, 1)) (hp : pc + 1 = pc') (g : Go Z k cn sn M pc' Ls (.long (x * u) :: st)) : Go Z k cn sn M pc Ls (.long u :: .long x :: st) := by
  obtain ⟨p, l, e, R', s, m, args, below, meth, c, Q'⟩ := k
  obtain ⟨hx, hZ, hby, -⟩ := H
  subst hp
  intro T w
  have w' := w
  obtain ⟨locs, X, F, O⟩ := w
  obtain ⟨t, o, hs, r⟩ := g T w'
  exact ⟨t, o, XS.lmul X.here hx rfl (hb hby hd) rfl hs, r⟩
theorem s_land (H : Ok Z k R Q y b ml rt) {x u : Int64} (hd : decode b pc = .ok (.land, 1)) (hp : pc + 1 = pc') (g : Go Z k cn sn M pc' Ls (.long (x &&& u) :: st)) : Go Z k cn sn M pc Ls (.long u :: .long x :: st) := by
  obtain ⟨p, l, e, R', s, m, args, below, meth, c, Q'⟩ := k
  obtain ⟨hx, hZ, hby, -⟩ := H
  subst hp
  intro T w
  have w' := w
  obtain ⟨locs, X, F, O⟩ := w
  obtain ⟨t, o, hs, r⟩ := g T w'
  exact ⟨t, o, XS.land X.here hx rfl (hb hby hd) rfl hs, r⟩
theorem s_lor (H : Ok Z k R Q y b ml rt) {x u : Int64} (hd : decode b pc = .ok (.lor, 1)) (hp : pc + 1 = pc') (g : Go Z k cn sn M pc' Ls (.long (x ||| u) :: st)) : Go Z k cn sn M pc Ls (.long u :: .long x :: st) := by
  obtain ⟨p, l, e, R', s, m, args, below, meth, c, Q'⟩ := k
  obtain ⟨hx, hZ, hby, -⟩ := H
  subst hp
  intro T w
  have w' := w
  obtain ⟨locs, X, F, O⟩ := w
  obtain ⟨t, o, hs, r⟩ := g T w'
  exact ⟨t, o, XS.lor X.here hx rfl (hb hby hd) rfl hs, r⟩
theorem s_lxor (H : Ok Z k R Q y b ml rt) {x u : Int64} (hd : decode b pc = .ok (.lxor, 1)) (hp : pc + 1 = pc') (g : Go Z k cn sn M pc' Ls (.long (x ^^^ u) :: st)) : Go Z k cn sn M pc Ls (.long u :: .long x :: st) := by
  obtain ⟨p, l, e, R', s, m, args, below, meth, c, Q'⟩ := k
  obtain ⟨hx, hZ, hby, -⟩ := H
  subst hp
  intro T w
  have w' := w
  obtain ⟨locs, X, F, O⟩ := w
  obtain ⟨t, o, hs, r⟩ := g T w'
  exact ⟨t, o, XS.lxor X.here hx rfl (hb hby hd) rfl hs, r⟩
theorem s_ldiv (H : Ok Z k R Q y b ml rt) {x u : Int64} (hd : decode b pc = .ok (.ldiv, 1)) (hu : u ≠ 0) (hp : pc + 1 = pc') (g : Go Z k cn sn M pc' Ls (.long (x / u) :: st)) : Go Z k cn sn M pc Ls (.long u :: .long x :: st) := by
  obtain ⟨p, l, e, R', s, m, args, below, meth, c, Q'⟩ := k
  obtain ⟨hx, hZ, hby, -⟩ := H
  subst hp
  intro T w
  have w' := w
  obtain ⟨locs, X, F, O⟩ := w
  obtain ⟨t, o, hs, r⟩ := g T w'
  exact ⟨t, o, XS.ldiv X.here hx rfl (hb hby hd) rfl hu hs, r⟩
theorem s_lneg (H : Ok Z k R Q y b ml rt) {x : Int64} (hd : decode b pc = .ok (.lneg, 1)) (hp : pc + 1 = pc') (g : Go Z k cn sn M pc' Ls (.long (-x) :: st)) : Go Z k cn sn M pc Ls (.long x :: st) := by
  obtain ⟨p, l, e, R', s, m, args, below, meth, c, Q'⟩ := k
  obtain ⟨hx, hZ, hby, -⟩ := H
  subst hp
  intro T w
  have w' := w
  obtain ⟨locs, X, F, O⟩ := w
  obtain ⟨t, o, hs, r⟩ := g T w'
  exact ⟨t, o, XS.lneg X.here hx rfl (hb hby hd) rfl hs, r⟩
theorem s_irem (H : Ok Z k R Q y b ml rt) {x u : Int32} (hd : decode b pc = .ok (.irem, 1)) (hu : u ≠ 0) (hp : pc + 1 = pc') (g : Go Z k cn sn M pc' Ls (.int (x % u) :: st)) : Go Z k cn sn M pc Ls (.int u :: .int x :: st) := by
  obtain ⟨p, l, e, R', s, m, args, below, meth, c, Q'⟩ := k
  obtain ⟨hx, hZ, hby, -⟩ := H
  subst hp
  intro T w
  have w' := w
  obtain ⟨locs, X, F, O⟩ := w
  obtain ⟨t, o, hs, r⟩ := g T w'
  exact ⟨t, o, iremM X hx rfl (hb hby hd) rfl hu hs, r⟩
theorem s_lrem (H : Ok Z k R Q y b ml rt) {x u : Int64} (hd : decode b pc = .ok (.lrem, 1)) (hu : u ≠ 0) (hp : pc + 1 = pc') (g : Go Z k cn sn M pc' Ls (.long (x % u) :: st)) : Go Z k cn sn M pc Ls (.long u :: .long x :: st) := by
  obtain ⟨p, l, e, R', s, m, args, below, meth, c, Q'⟩ := k
  obtain ⟨hx, hZ, hby, -⟩ := H
  subst hp
  intro T w
  have w' := w
  obtain ⟨locs, X, F, O⟩ := w
  obtain ⟨t, o, hs, r⟩ := g T w'
  exact ⟨t, o, XS.lrem X.here hx rfl (hb hby hd) rfl hu (lrem_mod x u ▸ hs), r⟩
theorem s_ishl (H : Ok Z k R Q y b ml rt) {x u : Int32} (hd : decode b pc = .ok (.ishl, 1)) (hp : pc + 1 = pc') (g : Go Z k cn sn M pc' Ls (.int (x <<< (u &&& 31)) :: st)) : Go Z k cn sn M pc Ls (.int u :: .int x :: st) := by
  obtain ⟨p, l, e, R', s, m, args, below, meth, c, Q'⟩ := k
  obtain ⟨hx, hZ, hby, -⟩ := H
  subst hp
  intro T w
  have w' := w
  obtain ⟨locs, X, F, O⟩ := w
  obtain ⟨t, o, hs, r⟩ := g T w'
  exact ⟨t, o, XS.ishl X.here hx rfl (hb hby hd) rfl hs, r⟩
theorem s_ishr (H : Ok Z k R Q y b ml rt) {x u : Int32} (hd : decode b pc = .ok (.ishr, 1)) (hp : pc + 1 = pc') (g : Go Z k cn sn M pc' Ls (.int (x >>> (u &&& 31)) :: st)) : Go Z k cn sn M pc Ls (.int u :: .int x :: st) := by
  obtain ⟨p, l, e, R', s, m, args, below, meth, c, Q'⟩ := k
  obtain ⟨hx, hZ, hby, -⟩ := H
  subst hp
  intro T w
  have w' := w
  obtain ⟨locs, X, F, O⟩ := w
  obtain ⟨t, o, hs, r⟩ := g T w'
  exact ⟨t, o, XS.ishr X.here hx rfl (hb hby hd) rfl hs, r⟩
theorem s_iushr (H : Ok Z k R Q y b ml rt) {x u : Int32} (hd : decode b pc = .ok (.iushr, 1)) (hp : pc + 1 = pc') (g : Go Z k cn sn M pc' Ls (.int ((x.toUInt32 >>> (u &&& 31).toUInt32).toInt32) :: st)) : Go Z k cn sn M pc Ls (.int u :: .int x :: st) := by
  obtain ⟨p, l, e, R', s, m, args, below, meth, c, Q'⟩ := k
  obtain ⟨hx, hZ, hby, -⟩ := H
  subst hp
  intro T w
  have w' := w
  obtain ⟨locs, X, F, O⟩ := w
  obtain ⟨t, o, hs, r⟩ := g T w'
  exact ⟨t, o, XS.iushr X.here hx rfl (hb hby hd) rfl hs, r⟩
theorem s_lshl (H : Ok Z k R Q y b ml rt) {x : Int64} {u : Int32} (hd : decode b pc = .ok (.lshl, 1)) (hp : pc + 1 = pc') (g : Go Z k cn sn M pc' Ls (.long (x <<< (u &&& 0x3f).toInt64) :: st)) : Go Z k cn sn M pc Ls (.int u :: .long x :: st) := by
  obtain ⟨p, l, e, R', s, m, args, below, meth, c, Q'⟩ := k
  obtain ⟨hx, hZ, hby, -⟩ := H
  subst hp
  intro T w
  have w' := w
  obtain ⟨locs, X, F, O⟩ := w
  obtain ⟨t, o, hs, r⟩ := g T w'
  exact ⟨t, o, XS.lshl X.here hx rfl (hb hby hd) rfl hs, r⟩
theorem s_lshr (H : Ok Z k R Q y b ml rt) {x : Int64} {u : Int32} (hd : decode b pc = .ok (.lshr, 1)) (hp : pc + 1 = pc') (g : Go Z k cn sn M pc' Ls (.long (x >>> (u &&& 0x3f).toInt64) :: st)) : Go Z k cn sn M pc Ls (.int u :: .long x :: st) := by
  obtain ⟨p, l, e, R', s, m, args, below, meth, c, Q'⟩ := k
  obtain ⟨hx, hZ, hby, -⟩ := H
  subst hp
  intro T w
  have w' := w
  obtain ⟨locs, X, F, O⟩ := w
  obtain ⟨t, o, hs, r⟩ := g T w'
  exact ⟨t, o, XS.lshr X.here hx rfl (hb hby hd) rfl hs, r⟩
theorem s_lushr (H : Ok Z k R Q y b ml rt) {x : Int64} {u : Int32} (hd : decode b pc = .ok (.lushr, 1)) (hp : pc + 1 = pc') (g : Go Z k cn sn M pc' Ls (.long ((x.toUInt64 >>> (u &&& 0x3f).toInt64.toUInt64).toInt64) :: st)) : Go Z k cn sn M pc Ls (.int u :: .long x :: st) := by
  obtain ⟨p, l, e, R', s, m, args, below, meth, c, Q'⟩ := k
  obtain ⟨hx, hZ, hby, -⟩ := H
  subst hp
  intro T w
  have w' := w
  obtain ⟨locs, X, F, O⟩ := w
  obtain ⟨t, o, hs, r⟩ := g T w'
  exact ⟨t, o, XS.lushr X.here hx rfl (hb hby hd) rfl hs, r⟩
theorem s_i2l (H : Ok Z k R Q y b ml rt) {x : Int32} (hd : decode b pc = .ok (.i2l, 1)) (hp : pc + 1 = pc') (g : Go Z k cn sn M pc' Ls (.long (x.toInt64) :: st)) : Go Z k cn sn M pc Ls (.int x :: st) := by
  obtain ⟨p, l, e, R', s, m, args, below, meth, c, Q'⟩ := k
  obtain ⟨hx, hZ, hby, -⟩ := H
  subst hp
  intro T w
  have w' := w
  obtain ⟨locs, X, F, O⟩ := w
  obtain ⟨t, o, hs, r⟩ := g T w'
  exact ⟨t, o, XS.i2l X.here hx rfl (hb hby hd) rfl hs, r⟩
theorem s_l2i (H : Ok Z k R Q y b ml rt) {x : Int64} (hd : decode b pc = .ok (.l2i, 1)) (hp : pc + 1 = pc') (g : Go Z k cn sn M pc' Ls (.int (x.toInt32) :: st)) : Go Z k cn sn M pc Ls (.long x :: st) := by
  obtain ⟨p, l, e, R', s, m, args, below, meth, c, Q'⟩ := k
  obtain ⟨hx, hZ, hby, -⟩ := H
  subst hp
  intro T w
  have w' := w
  obtain ⟨locs, X, F, O⟩ := w
  obtain ⟨t, o, hs, r⟩ := g T w'
  exact ⟨t, o, XS.l2i X.here hx rfl (hb hby hd) rfl hs, r⟩
theorem s_i2b (H : Ok Z k R Q y b ml rt) {x : Int32} (hd : decode b pc = .ok (.i2b, 1)) (hp : pc + 1 = pc') (g : Go Z k cn sn M pc' Ls (.int (x.toInt8.toInt32) :: st)) : Go Z k cn sn M pc Ls (.int x :: st) := by
  obtain ⟨p, l, e, R', s, m, args, below, meth, c, Q'⟩ := k
  obtain ⟨hx, hZ, hby, -⟩ := H
  subst hp
  intro T w
  have w' := w
  obtain ⟨locs, X, F, O⟩ := w
  obtain ⟨t, o, hs, r⟩ := g T w'
  exact ⟨t, o, XS.i2b X.here hx rfl (hb hby hd) rfl hs, r⟩
theorem s_i2c (H : Ok Z k R Q y b ml rt) {x : Int32} (hd : decode b pc = .ok (.i2c, 1)) (hp : pc + 1 = pc') (g : Go Z k cn sn M pc' Ls (.int (x.toUInt32.toUInt16.toUInt32.toInt32) :: st)) : Go Z k cn sn M pc Ls (.int x :: st) := by
  obtain ⟨p, l, e, R', s, m, args, below, meth, c, Q'⟩ := k
  obtain ⟨hx, hZ, hby, -⟩ := H
  subst hp
  intro T w
  have w' := w
  obtain ⟨locs, X, F, O⟩ := w
  obtain ⟨t, o, hs, r⟩ := g T w'
  exact ⟨t, o, XS.i2c X.here hx rfl (hb hby hd) rfl hs, r⟩
theorem s_i2s (H : Ok Z k R Q y b ml rt) {x : Int32} (hd : decode b pc = .ok (.i2s, 1)) (hp : pc + 1 = pc') (g : Go Z k cn sn M pc' Ls (.int (x.toInt16.toInt32) :: st)) : Go Z k cn sn M pc Ls (.int x :: st) := by
  obtain ⟨p, l, e, R', s, m, args, below, meth, c, Q'⟩ := k
  obtain ⟨hx, hZ, hby, -⟩ := H
  subst hp
  intro T w
  have w' := w
  obtain ⟨locs, X, F, O⟩ := w
  obtain ⟨t, o, hs, r⟩ := g T w'
  exact ⟨t, o, XS.i2s X.here hx rfl (hb hby hd) rfl hs, r⟩
theorem s_lcmp (H : Ok Z k R Q y b ml rt) {x u : Int64} (hd : decode b pc = .ok (.lcmp, 1)) (hp : pc + 1 = pc') (g : Go Z k cn sn M pc' Ls (.int (lcmpW x u) :: st)) : Go Z k cn sn M pc Ls (.long u :: .long x :: st) := by
  obtain ⟨p, l, e, R', s, m, args, below, meth, c, Q'⟩ := k
  obtain ⟨hx, hZ, hby, -⟩ := H
  subst hp
  intro T w
  have w' := w
  obtain ⟨locs, X, F, O⟩ := w
  obtain ⟨t, o, hs, r⟩ := g T w'
  exact ⟨t, o, XS.lcmp X.here hx rfl (hb hby hd) rfl hs, r⟩
theorem s_dup (H : Ok Z k R Q y b ml rt) {v : Value} (hd : decode b pc = .ok (.dup, 1)) (hc : v.category = 1) (hp : pc + 1 = pc') (g : Go Z k cn sn M pc' Ls (v :: v :: st)) : Go Z k cn sn M pc Ls (v :: st) := by
  obtain ⟨p, l, e, R', s, m, args, below, meth, c, Q'⟩ := k
  obtain ⟨hx, hZ, hby, -⟩ := H
  subst hp
  intro T w
  have w' := w
  obtain ⟨locs, X, F, O⟩ := w
  obtain ⟨t, o, hs, r⟩ := g T w'
  exact ⟨t, o, XS.dup X.here hx rfl (hb hby hd) rfl hc hs, r⟩
theorem s_dupx1 (H : Ok Z k R Q y b ml rt) {v v' : Value} (hd : decode b pc = .ok (.dup_x1, 1)) (hc : v.category = 1) (hc' : v'.category = 1) (hp : pc + 1 = pc') (g : Go Z k cn sn M pc' Ls (v :: v' :: v :: st)) : Go Z k cn sn M pc Ls (v :: v' :: st) := by
  obtain ⟨p, l, e, R', s, m, args, below, meth, c, Q'⟩ := k
  obtain ⟨hx, hZ, hby, -⟩ := H
  subst hp
  intro T w
  have w' := w
  obtain ⟨locs, X, F, O⟩ := w
  obtain ⟨t, o, hs, r⟩ := g T w'
  exact ⟨t, o, XS.dupX1 X.here hx rfl (hb hby hd) rfl hc hc' hs, r⟩
theorem s_dup2 (H : Ok Z k R Q y b ml rt) {v v' : Value} (hd : decode b pc = .ok (.dup2, 1)) (hc : v.category = 1) (hc' : v'.category = 1) (hp : pc + 1 = pc') (g : Go Z k cn sn M pc' Ls (v :: v' :: v :: v' :: st)) : Go Z k cn sn M pc Ls (v :: v' :: st) := by
  obtain ⟨p, l, e, R', s, m, args, below, meth, c, Q'⟩ := k
  obtain ⟨hx, hZ, hby, -⟩ := H
  subst hp
  intro T w
  have w' := w
  obtain ⟨locs, X, F, O⟩ := w
  obtain ⟨t, o, hs, r⟩ := g T w'
  exact ⟨t, o, XT.dup2 X.here hx rfl (hb hby hd) rfl hc hc' hs, r⟩
theorem s_dup2l (H : Ok Z k R Q y b ml rt) {x : Int64} (hd : decode b pc = .ok (.dup2, 1)) (hp : pc + 1 = pc') (g : Go Z k cn sn M pc' Ls (.long x :: .long x :: st)) : Go Z k cn sn M pc Ls (.long x :: st) := by
  obtain ⟨p, l, e, R', s, m, args, below, meth, c, Q'⟩ := k
  obtain ⟨hx, hZ, hby, -⟩ := H
  subst hp
  intro T w
  have w' := w
  obtain ⟨locs, X, F, O⟩ := w
  obtain ⟨t, o, hs, r⟩ := g T w'
  exact ⟨t, o, XT.dup2L X.here hx rfl (hb hby hd) rfl hs, r⟩
theorem s_pop (H : Ok Z k R Q y b ml rt) {v : Value} (hd : decode b pc = .ok (.pop, 1)) (hc : v.category = 1) (hp : pc + 1 = pc') (g : Go Z k cn sn M pc' Ls (st)) : Go Z k cn sn M pc Ls (v :: st) := by
  obtain ⟨p, l, e, R', s, m, args, below, meth, c, Q'⟩ := k
  obtain ⟨hx, hZ, hby, -⟩ := H
  subst hp
  intro T w
  have w' := w
  obtain ⟨locs, X, F, O⟩ := w
  obtain ⟨t, o, hs, r⟩ := g T w'
  exact ⟨t, o, XS.pop X.here hx rfl (hb hby hd) rfl hc hs, r⟩
theorem s_iinc (H : Ok Z k R Q y b ml rt) {i : Nat} {cst : Int} {x u : Int32} {L' : Int32 → Array Slot} (hd : decode b pc = .ok (.iinc i cst, 3)) (hl0 : Ls[i]? = some (.val (.int x))) (hu : u = Int32.ofInt cst) (hl : ∀ z, storeLocals Ls i (.int z) = some (L' z)) (hp : pc + 3 = pc') (g : ∀ z, z = x + u → Go Z k cn sn M pc' (L' z) st) : Go Z k cn sn M pc Ls st := by
  obtain ⟨p, l, e, R', s, m, args, below, meth, c, Q'⟩ := k
  obtain ⟨hx, hZ, hby, -⟩ := H
  subst hp hu
  intro T w
  have w' := w
  obtain ⟨locs, X, F, O⟩ := w
  obtain ⟨t, o, hs, r⟩ := g _ rfl T w'
  exact ⟨t, o, XS.iinc X.here hx rfl (hb hby hd) hl0 (hl _) hs, r⟩
theorem s_goto (H : Ok Z k R Q y b ml rt) {o : Int} (hd : decode b pc = .ok (.goto o, 3)) (ho : (pc : Int) + o = pc') (g : Go Z k cn sn M pc' Ls st) : Go Z k cn sn M pc Ls st := by
  obtain ⟨p, l, e, R', s, m, args, below, meth, c, Q'⟩ := k
  obtain ⟨hx, hZ, hby, -⟩ := H
  intro T w
  have w' := w
  obtain ⟨locs, X, F, O⟩ := w
  obtain ⟨t, o, hs, r⟩ := g T w'
  exact ⟨t, o, XS.goto X.here hx rfl (pc0 := pc) rfl (hb hby hd) (by omega) (by omega) hs, r⟩
theorem s_if (H : Ok Z k R Q y b ml rt) {cd : ClassFile.Cond} {o : Int} {x : Int32} {py : Nat} {φ : Prop} (hd : decode b pc = .ok (.ifCond cd o, 3)) (hq : ifCond.holds cd x = true ↔ φ) (ho : (pc : Int) + o = py) (hp : pc + 3 = pc') (gy : φ → Go Z k cn sn M py Ls st) (gn : ¬ φ → Go Z k cn sn M pc' Ls st) : Go Z k cn sn M pc Ls (.int x :: st) := by
  obtain ⟨p, l, e, R', s, m, args, below, meth, c, Q'⟩ := k
  obtain ⟨hx, hZ, hby, -⟩ := H
  subst hp
  intro T w
  have w' := w
  obtain ⟨locs, X, F, O⟩ := w
  cases hh : ifCond.holds cd x with
  | true =>
    obtain ⟨t, o, hs, r⟩ := gy (hq.mp hh) T w'
    exact ⟨t, o, XS.ifYes X.here hx rfl (pc0 := pc) rfl (hb hby hd) rfl hh (by omega) (by omega) hs, r⟩
  | false =>
    obtain ⟨t, o, hs, r⟩ := gn (fun q => by rw [hq.mpr q] at hh; cases hh) T w'
    exact ⟨t, o, XS.ifNo X.here hx rfl (hb hby hd) rfl hh hs, r⟩
theorem s_icmp (H : Ok Z k R Q y b ml rt) {cd : ClassFile.Cond} {o : Int} {x u : Int32} {py : Nat} {φ : Prop} (hd : decode b pc = .ok (.if_icmp cd o, 3)) (hq : if_icmp.holds cd x u = true ↔ φ) (ho : (pc : Int) + o = py) (hp : pc + 3 = pc') (gy : φ → Go Z k cn sn M py Ls st) (gn : ¬ φ → Go Z k cn sn M pc' Ls st) : Go Z k cn sn M pc Ls (.int u :: .int x :: st) := by
  obtain ⟨p, l, e, R', s, m, args, below, meth, c, Q'⟩ := k
  obtain ⟨hx, hZ, hby, -⟩ := H
  subst hp
  intro T w
  have w' := w
  obtain ⟨locs, X, F, O⟩ := w
  cases hh : if_icmp.holds cd x u with
  | true =>
    obtain ⟨t, o, hs, r⟩ := gy (hq.mp hh) T w'
    exact ⟨t, o, XS.icmpYes X.here hx rfl (pc0 := pc) rfl (hb hby hd) rfl hh (by omega) (by omega) hs, r⟩
  | false =>
    obtain ⟨t, o, hs, r⟩ := gn (fun q => by rw [hq.mpr q] at hh; cases hh) T w'
    exact ⟨t, o, XS.icmpNo X.here hx rfl (hb hby hd) rfl hh hs, r⟩
theorem q_eq {x u : Int32} : if_icmp.holds .eq x u = true ↔ x = u := by simp [if_icmp.holds]
theorem z_eq {x : Int32} : ifCond.holds .eq x = true ↔ x = 0 := by rw [if0]; exact q_eq
theorem q_ne {x u : Int32} : if_icmp.holds .ne x u = true ↔ ¬ x = u := by simp [if_icmp.holds]
theorem z_ne {x : Int32} : ifCond.holds .ne x = true ↔ ¬ x = 0 := by rw [if0]; exact q_ne
theorem q_lt {x u : Int32} : if_icmp.holds .lt x u = true ↔ x < u := by simp [if_icmp.holds]
theorem z_lt {x : Int32} : ifCond.holds .lt x = true ↔ x < 0 := by rw [if0]; exact q_lt
theorem q_ge {x u : Int32} : if_icmp.holds .ge x u = true ↔ u ≤ x := by simp [if_icmp.holds]
theorem z_ge {x : Int32} : ifCond.holds .ge x = true ↔ 0 ≤ x := by rw [if0]; exact q_ge
theorem q_gt {x u : Int32} : if_icmp.holds .gt x u = true ↔ u < x := by simp [if_icmp.holds]
theorem z_gt {x : Int32} : ifCond.holds .gt x = true ↔ 0 < x := by rw [if0]; exact q_gt
theorem q_le {x u : Int32} : if_icmp.holds .le x u = true ↔ x ≤ u := by simp [if_icmp.holds]
theorem z_le {x : Int32} : ifCond.holds .le x = true ↔ x ≤ 0 := by rw [if0]; exact q_le
theorem l_eq {x u : Int64} : ifCond.holds .eq (lcmpW x u) = true ↔ x = u := z_eq.trans (lw_eq x u)
theorem l_ne {x u : Int64} : ifCond.holds .ne (lcmpW x u) = true ↔ ¬ x = u := z_ne.trans (not_congr (lw_eq x u))
theorem l_lt {x u : Int64} : ifCond.holds .lt (lcmpW x u) = true ↔ x < u := z_lt.trans (lw_lt x u)
theorem l_gt {x u : Int64} : ifCond.holds .gt (lcmpW x u) = true ↔ u < x := z_gt.trans (lw_gt x u)
theorem l_ge {x u : Int64} : ifCond.holds .ge (lcmpW x u) = true ↔ u ≤ x := z_ge.trans (by rw [lcW]; exact lc_ge x u)
theorem l_le {x u : Int64} : ifCond.holds .le (lcmpW x u) = true ↔ x ≤ u := z_le.trans (by rw [lcW]; exact lc_le x u)
theorem s_ifnull (H : Ok Z k R Q y b ml rt) {o : Int} {a : Addr} (hd : decode b pc = .ok (.ifnull o, 3)) (hp : pc + 3 = pc') (g : Go Z k cn sn M pc' Ls st) : Go Z k cn sn M pc Ls (.ref a :: st) := by
  obtain ⟨p, l, e, R', s, m, args, below, meth, c, Q'⟩ := k
  obtain ⟨hx, hZ, hby, -⟩ := H
  subst hp
  intro T w
  have w' := w
  obtain ⟨locs, X, F, O⟩ := w
  obtain ⟨t, o, hs, r⟩ := g T w'
  exact ⟨t, o, XS.ifnullNo X.here hx rfl (hb hby hd) rfl hs, r⟩
theorem s_acmpne (H : Ok Z k R Q y b ml rt) {o : Int} {a a' : Addr} {py : Nat} (hd : decode b pc = .ok (.if_acmp .ne o, 3)) (hne : a ≠ a') (ho : (pc : Int) + o = py) (g : Go Z k cn sn M py Ls st) : Go Z k cn sn M pc Ls (.ref a' :: .ref a :: st) := by
  obtain ⟨p, l, e, R', s, m, args, below, meth, c, Q'⟩ := k
  obtain ⟨hx, hZ, hby, -⟩ := H
  intro T w
  have w' := w
  obtain ⟨locs, X, F, O⟩ := w
  obtain ⟨t, o, hs, r⟩ := g T w'
  exact ⟨t, o, XS.acmpYes X.here hx rfl (pc0 := pc) rfl (hb hby hd) rfl (by simp [if_acmp.holds, hne]) (by omega) (by omega) hs, r⟩
theorem s_acmpeq (H : Ok Z k R Q y b ml rt) {o : Int} {a a' : Addr} (hd : decode b pc = .ok (.if_acmp .eq o, 3)) (hne : a ≠ a') (hp : pc + 3 = pc') (g : Go Z k cn sn M pc' Ls st) : Go Z k cn sn M pc Ls (.ref a' :: .ref a :: st) := by
  obtain ⟨p, l, e, R', s, m, args, below, meth, c, Q'⟩ := k
  obtain ⟨hx, hZ, hby, -⟩ := H
  subst hp
  intro T w
  have w' := w
  obtain ⟨locs, X, F, O⟩ := w
  obtain ⟨t, o, hs, r⟩ := g T w'
  exact ⟨t, o, XS.acmpNo X.here hx rfl (hb hby hd) rfl (by simp [if_acmp.holds, hne]) hs, r⟩
theorem s_ldc2 (H : Ok Z k R Q y b ml rt) {i : Nat} {z : Int64} (hd : decode b pc = .ok (.ldc2_w i, 3)) (w1 : Jvm.Cond.constantLong y.cls i z ∈ tables_1) (hp : pc + 3 = pc') (g : Go Z k cn sn M pc' Ls (.long z :: st)) : Go Z k cn sn M pc Ls st := by
  obtain ⟨p, l, e, R', s, m, args, below, meth, c, Q'⟩ := k
  obtain ⟨hx, hZ, hby, -, hown, -, -, -, ⟨a0, hw⟩, -⟩ := H
  subst hp
  intro T w
  have w' := w
  obtain ⟨locs, X, F, O⟩ := w
  obtain ⟨t, o, hs, r⟩ := g T w'
  exact ⟨t, o, X.ldc2Long hx hown (mvT hZ (hw _ w1)) (g := mkF m pc Ls st) rfl (hb hby hd) _ hs, r⟩
theorem s_ldc (H : Ok Z k R Q y b ml rt) {i : Nat} {z : Int32} (hd : decode b pc = .ok (.ldc i, 2)) (w1 : Jvm.Cond.constant y.cls i z ∈ tables_1) (hp : pc + 2 = pc') (g : Go Z k cn sn M pc' Ls (.int z :: st)) : Go Z k cn sn M pc Ls st := by
  obtain ⟨p, l, e, R', s, m, args, below, meth, c, Q'⟩ := k
  obtain ⟨hx, hZ, hby, -, hown, -, -, -, ⟨a0, hw⟩, -⟩ := H
  subst hp
  intro T w
  have w' := w
  obtain ⟨locs, X, F, O⟩ := w
  obtain ⟨t, o, hs, r⟩ := g T w'
  exact ⟨t, o, X.ldcInt hx hown (mvT hZ (hw _ w1)) (g := mkF m pc Ls st) rfl (hb hby hd) _ hs, r⟩
theorem s_ldcw (H : Ok Z k R Q y b ml rt) {i : Nat} {z : Int32} (hd : decode b pc = .ok (.ldc_w i, 3)) (w1 : Jvm.Cond.constant y.cls i z ∈ tables_1) (hp : pc + 3 = pc') (g : Go Z k cn sn M pc' Ls (.int z :: st)) : Go Z k cn sn M pc Ls st := by
  obtain ⟨p, l, e, R', s, m, args, below, meth, c, Q'⟩ := k
  obtain ⟨hx, hZ, hby, -, hown, -, -, -, ⟨a0, hw⟩, -⟩ := H
  subst hp
  intro T w
  have w' := w
  obtain ⟨locs, X, F, O⟩ := w
  obtain ⟨t, o, hs, r⟩ := g T w'
  exact ⟨t, o, X.ldcwInt hx hown (mvT hZ (hw _ w1)) (g := mkF m pc Ls st) rfl (hb hby hd) _ hs, r⟩
/-! the heap's steps -/
theorem nb_of {n : Nat} {j : Int32} (h0 : ¬ j < 0) (hl : j.toNatClampNeg < n) : ¬ (j < 0 ∨ n ≤ j.toNatClampNeg) := fun q => q.elim h0 fun r => Nat.not_lt.mpr r hl
theorem s_alenI (H : Ok Z k R Q y b ml rt) {i : Nat} {a : Addr} {ty : FieldType} {vs : List Int32} {z : Int32} (hd : decode b pc = .ok (.arraylength, 1)) (hi : M[i]? = some (a, ArI Z ty vs)) (hz : z = vs.length.toInt32) (hp : pc + 1 = pc') (g : Go Z k cn sn M pc' Ls (.int z :: st)) : Go Z k cn sn M pc Ls (.ref a :: st) := by
  obtain ⟨p, l, e, R', s, m, args, below, meth, c, Q'⟩ := k
  obtain ⟨hx, hZ, hby, -⟩ := H
  subst hp hz
  intro T w
  have w' := w
  obtain ⟨locs, X, F, O⟩ := w
  obtain ⟨-, cl, q1, q2⟩ := O.2.1 i _ hi
  obtain ⟨t, o, hs, r⟩ := g T w'
  exact ⟨t, o, X.arraylength hx q1 (State.isArrayOf_alike hZ.alike q2.1) (g := mkF m pc Ls (.ref a :: st)) rfl rfl (hb hby hd) _ (by rw [q2.size]; exact hs), r⟩
theorem s_alenL (H : Ok Z k R Q y b ml rt) {i : Nat} {a : Addr} {vs : List Int64} {z : Int32} (hd : decode b pc = .ok (.arraylength, 1)) (hi : M[i]? = some (a, ArL Z vs)) (hz : z = vs.length.toInt32) (hp : pc + 1 = pc') (g : Go Z k cn sn M pc' Ls (.int z :: st)) : Go Z k cn sn M pc Ls (.ref a :: st) := by
  obtain ⟨p, l, e, R', s, m, args, below, meth, c, Q'⟩ := k
  obtain ⟨hx, hZ, hby, -⟩ := H
  subst hp hz
  intro T w
  have w' := w
  obtain ⟨locs, X, F, O⟩ := w
  obtain ⟨-, cl, q1, q2⟩ := O.2.1 i _ hi
  obtain ⟨t, o, hs, r⟩ := g T w'
  exact ⟨t, o, X.arraylength hx q1 (State.isArrayOf_alike hZ.alike q2.1) (g := mkF m pc Ls (.ref a :: st)) rfl rfl (hb hby hd) _ (by rw [q2.size]; exact hs), r⟩
theorem s_iaload (H : Ok Z k R Q y b ml rt) {i : Nat} {a : Addr} {vs : List Int32} {j : Int32} {x : Int32} (hd : decode b pc = .ok (.iaload, 1)) (hi : M[i]? = some (a, ArI Z .int vs)) (h0 : ¬ j < 0) {jn : Nat} (hjn : j.toNatClampNeg = jn) (hv : vs[jn]? = some x) (hp : pc + 1 = pc') (g : Go Z k cn sn M pc' Ls (.int x :: st)) : Go Z k cn sn M pc Ls (.int j :: .ref a :: st) := by
  obtain ⟨p, l, e, R', s, m, args, below, meth, c, Q'⟩ := k
  obtain ⟨hx, hZ, hby, -⟩ := H
  subst hp hjn
  intro T w
  have w' := w
  obtain ⟨locs, X, F, O⟩ := w
  obtain ⟨-, cl, q1, q2⟩ := O.2.1 i _ hi
  obtain ⟨t, o, hs, r⟩ := g T w'
  have hlt : j.toNatClampNeg < vs.length := (List.getElem?_eq_some_iff.mp hv).1
  exact ⟨t, o, X.iaload hx (v := .int x) q1 (State.isArrayOf_alike hZ.alike q2.1) q2.2.1 (nb_of h0 (by rw [q2.size]; exact hlt)) (by rw [q2.2.2.1]; simp [hv]) (g := mkF m pc Ls (.int j :: .ref a :: st)) rfl rfl (hb hby hd) _ hs, r⟩
theorem s_baload (H : Ok Z k R Q y b ml rt) {i : Nat} {a : Addr} {vs : List Int32} {j : Int32} {x : Int32} (hd : decode b pc = .ok (.baload, 1)) (hi : M[i]? = some (a, ArI Z .byte vs)) (h0 : ¬ j < 0) {jn : Nat} (hjn : j.toNatClampNeg = jn) (hv : vs[jn]? = some x) (hp : pc + 1 = pc') (g : Go Z k cn sn M pc' Ls (.int x :: st)) : Go Z k cn sn M pc Ls (.int j :: .ref a :: st) := by
  obtain ⟨p, l, e, R', s, m, args, below, meth, c, Q'⟩ := k
  obtain ⟨hx, hZ, hby, -⟩ := H
  subst hp hjn
  intro T w
  have w' := w
  obtain ⟨locs, X, F, O⟩ := w
  obtain ⟨-, cl, q1, q2⟩ := O.2.1 i _ hi
  obtain ⟨t, o, hs, r⟩ := g T w'
  have hlt : j.toNatClampNeg < vs.length := (List.getElem?_eq_some_iff.mp hv).1
  exact ⟨t, o, X.baloadBytes hx (v := .int x) q1 (State.isArrayOf_alike hZ.alike q2.1) q2.2.1 (nb_of h0 (by rw [q2.size]; exact hlt)) (by rw [q2.2.2.1]; simp [hv]) (g := mkF m pc Ls (.int j :: .ref a :: st)) rfl rfl (hb hby hd) _ hs, r⟩
theorem s_zaload (H : Ok Z k R Q y b ml rt) {i : Nat} {a : Addr} {vs : List Int32} {j : Int32} {x : Int32} (hd : decode b pc = .ok (.baload, 1)) (hi : M[i]? = some (a, ArI Z .boolean vs)) (h0 : ¬ j < 0) {jn : Nat} (hjn : j.toNatClampNeg = jn) (hv : vs[jn]? = some x) (hp : pc + 1 = pc') (g : Go Z k cn sn M pc' Ls (.int x :: st)) : Go Z k cn sn M pc Ls (.int j :: .ref a :: st) := by
  obtain ⟨p, l, e, R', s, m, args, below, meth, c, Q'⟩ := k
  obtain ⟨hx, hZ, hby, -⟩ := H
  subst hp hjn
  intro T w
  have w' := w
  obtain ⟨locs, X, F, O⟩ := w
  obtain ⟨-, cl, q1, q2⟩ := O.2.1 i _ hi
  obtain ⟨t, o, hs, r⟩ := g T w'
  have hlt : j.toNatClampNeg < vs.length := (List.getElem?_eq_some_iff.mp hv).1
  exact ⟨t, o, X.baloadBooleans hx (v := .int x) q1 (State.isArrayOf_alike hZ.alike q2.1) q2.2.1 (nb_of h0 (by rw [q2.size]; exact hlt)) (by rw [q2.2.2.1]; simp [hv]) (g := mkF m pc Ls (.int j :: .ref a :: st)) rfl rfl (hb hby hd) _ hs, r⟩
theorem s_laload (H : Ok Z k R Q y b ml rt) {i : Nat} {a : Addr} {vs : List Int64} {j : Int32} {x : Int64} (hd : decode b pc = .ok (.laload, 1)) (hi : M[i]? = some (a, ArL Z vs)) (h0 : ¬ j < 0) {jn : Nat} (hjn : j.toNatClampNeg = jn) (hv : vs[jn]? = some x) (hp : pc + 1 = pc') (g : Go Z k cn sn M pc' Ls (.long x :: st)) : Go Z k cn sn M pc Ls (.int j :: .ref a :: st) := by
  obtain ⟨p, l, e, R', s, m, args, below, meth, c, Q'⟩ := k
  obtain ⟨hx, hZ, hby, -⟩ := H
  subst hp hjn
  intro T w
  have w' := w
  obtain ⟨locs, X, F, O⟩ := w
  obtain ⟨-, cl, q1, q2⟩ := O.2.1 i _ hi
  obtain ⟨t, o, hs, r⟩ := g T w'
  have hlt : j.toNatClampNeg < vs.length := (List.getElem?_eq_some_iff.mp hv).1
  exact ⟨t, o, X.laload hx (v := .long x) q1 (State.isArrayOf_alike hZ.alike q2.1) q2.2.1 (nb_of h0 (by rw [q2.size]; exact hlt)) (by rw [q2.2.2.1]; simp [hv]) (g := mkF m pc Ls (.int j :: .ref a :: st)) rfl rfl (hb hby hd) _ hs, r⟩
theorem s_iastore (H : Ok Z k R Q y b ml rt) {i : Nat} {a : Addr} {vs : List Int32} {j : Int32} {x : Int32} (hd : decode b pc = .ok (.iastore, 1)) (hi : M[i]? = some (a, ArI Z .int vs)) (h0 : ¬ j < 0) {jn : Nat} (hjn : j.toNatClampNeg = jn) (hj : jn < vs.length) (hp : pc + 1 = pc') (g : Go Z k cn sn (M.set i (a, ArI Z .int (vs.set jn x))) pc' Ls st) : Go Z k cn sn M pc Ls (.int x :: .int j :: .ref a :: st) := by
  obtain ⟨p, l, e, R', s, m, args, below, meth, c, Q'⟩ := k
  obtain ⟨hx, hZ, hby, -⟩ := H
  subst hp hjn
  intro T w
  obtain ⟨locs, X, F, O⟩ := w
  obtain ⟨q0, cl, q1, q2⟩ := O.2.1 i _ hi
  obtain ⟨T', h', X', e', W, sg⟩ := stI X hx hZ rfl (q2.arr q1) (j := j) (nb_of h0 (by rw [q2.size]; exact hj)) (g := mkF m pc Ls (.int x :: .int j :: .ref a :: st)) rfl rfl (hb hby hd)
  obtain ⟨t, o, hs, r⟩ := g T' ⟨_, X', Fr.snoc X' F q0, e' ▸ O.upd hi W fun c _ hc => hc.put _ rfl⟩
  exact ⟨t, o, sg _ hs, r⟩
theorem s_bastore (H : Ok Z k R Q y b ml rt) {i : Nat} {a : Addr} {vs : List Int32} {j : Int32} {x0 x : Int32} (hd : decode b pc = .ok (.bastore, 1)) (hi : M[i]? = some (a, ArI Z .byte vs)) (h0 : ¬ j < 0) {jn : Nat} (hjn : j.toNatClampNeg = jn) (hj : jn < vs.length) (hn : x = nar .byte x0) (hp : pc + 1 = pc') (g : Go Z k cn sn (M.set i (a, ArI Z .byte (vs.set jn x))) pc' Ls st) : Go Z k cn sn M pc Ls (.int x0 :: .int j :: .ref a :: st) := by
  obtain ⟨p, l, e, R', s, m, args, below, meth, c, Q'⟩ := k
  obtain ⟨hx, hZ, hby, -⟩ := H
  subst hp hjn hn
  intro T w
  obtain ⟨locs, X, F, O⟩ := w
  obtain ⟨q0, cl, q1, q2⟩ := O.2.1 i _ hi
  obtain ⟨T', h', X', e', W, sg⟩ := stB X hx hZ rfl (q2.arr q1) (j := j) (nb_of h0 (by rw [q2.size]; exact hj)) (g := mkF m pc Ls (.int x0 :: .int j :: .ref a :: st)) rfl rfl (hb hby hd)
  obtain ⟨t, o, hs, r⟩ := g T' ⟨_, X', Fr.snoc X' F q0, e' ▸ O.upd hi W fun c _ hc => hc.put _ (fits_nar_byte _)⟩
  exact ⟨t, o, sg _ hs, r⟩
theorem s_zastore (H : Ok Z k R Q y b ml rt) {i : Nat} {a : Addr} {vs : List Int32} {j : Int32} {x0 x : Int32} (hd : decode b pc = .ok (.bastore, 1)) (hi : M[i]? = some (a, ArI Z .boolean vs)) (h0 : ¬ j < 0) {jn : Nat} (hjn : j.toNatClampNeg = jn) (hj : jn < vs.length) (hn : x = nar .boolean x0) (hp : pc + 1 = pc') (g : Go Z k cn sn (M.set i (a, ArI Z .boolean (vs.set jn x))) pc' Ls st) : Go Z k cn sn M pc Ls (.int x0 :: .int j :: .ref a :: st) := by
  obtain ⟨p, l, e, R', s, m, args, below, meth, c, Q'⟩ := k
  obtain ⟨hx, hZ, hby, -⟩ := H
  subst hp hjn hn
  intro T w
  obtain ⟨locs, X, F, O⟩ := w
  obtain ⟨q0, cl, q1, q2⟩ := O.2.1 i _ hi
  obtain ⟨T', h', X', e', W, sg⟩ := stZ X hx hZ rfl (q2.arr q1) (j := j) (nb_of h0 (by rw [q2.size]; exact hj)) (g := mkF m pc Ls (.int x0 :: .int j :: .ref a :: st)) rfl rfl (hb hby hd)
  obtain ⟨t, o, hs, r⟩ := g T' ⟨_, X', Fr.snoc X' F q0, e' ▸ O.upd hi W fun c _ hc => hc.put _ (fits_nar_bool _)⟩
  exact ⟨t, o, sg _ hs, r⟩
theorem s_lastore (H : Ok Z k R Q y b ml rt) {i : Nat} {a : Addr} {vs : List Int64} {j : Int32} {x : Int64} (hd : decode b pc = .ok (.lastore, 1)) (hi : M[i]? = some (a, ArL Z vs)) (h0 : ¬ j < 0) {jn : Nat} (hjn : j.toNatClampNeg = jn) (hj : jn < vs.length) (hp : pc + 1 = pc') (g : Go Z k cn sn (M.set i (a, ArL Z (vs.set jn x))) pc' Ls st) : Go Z k cn sn M pc Ls (.long x :: .int j :: .ref a :: st) := by
  obtain ⟨p, l, e, R', s, m, args, below, meth, c, Q'⟩ := k
  obtain ⟨hx, hZ, hby, -⟩ := H
  subst hp hjn
  intro T w
  obtain ⟨locs, X, F, O⟩ := w
  obtain ⟨q0, cl, q1, q2⟩ := O.2.1 i _ hi
  obtain ⟨T', h', X', e', W, sg⟩ := stJ X hx hZ rfl (q2.arr q1) (j := j) (nb_of h0 (by rw [q2.size]; exact hj)) (g := mkF m pc Ls (.long x :: .int j :: .ref a :: st)) rfl rfl (hb hby hd)
  obtain ⟨t, o, hs, r⟩ := g T' ⟨_, X', Fr.snoc X' F q0, e' ▸ O.upd hi W fun c _ hc => hc.put _⟩
  exact ⟨t, o, sg _ hs, r⟩
theorem s_getf (H : Ok Z k R Q y b ml rt) {i j idx : Nat} {a : Addr} {C O n d : String} {fs : List Fd} {v : Value} (hd : decode b pc = .ok (.getfield idx, 3)) (w1 : Jvm.Cond.fieldLink y.cls idx O n d ∈ tables_1) (hi : M[i]? = some (a, Obj Z C fs)) (hj : fs[j]? = some (O, n, d, v)) (hp : pc + 3 = pc') (g : Go Z k cn sn M pc' Ls (v :: st)) : Go Z k cn sn M pc Ls (.ref a :: st) := by
  obtain ⟨p, l, e, R', s, m, args, below, meth, c, Q'⟩ := k
  obtain ⟨hx, hZ, hby, -, hown, -, -, -, ⟨a0, hw⟩, -⟩ := H
  subst hp
  intro T w
  obtain ⟨locs, X, F, OO⟩ := w
  obtain ⟨-, cl, q1, q2⟩ := OO.2.1 i _ hi
  obtain ⟨T', X', e', sg⟩ := getF X hx hZ hown (host := "") (Or.inl (hw _ w1)) Via.refl rfl ((q2.1 _ _ q1).2 j _ hj) (g := mkF m pc Ls (.ref a :: st)) rfl rfl (hb hby hd)
  obtain ⟨t, o, hs, r⟩ := g T' ⟨_, X', F, e' ▸ OO⟩
  exact ⟨t, o, sg _ hs, r⟩
theorem s_getfN (H : Ok Z k R Q y b ml rt) {i j idx : Nat} {a : Addr} {C O n d host : String} {fs : List Fd} {v : Value} (hd : decode b pc = .ok (.getfield idx, 3)) (w1 : Jvm.Cond.fieldLinkNest y.cls idx O n d host ∈ tables_1) (hi : M[i]? = some (a, Obj Z C fs)) (hj : fs[j]? = some (O, n, d, v)) (hp : pc + 3 = pc') (g : Go Z k cn sn M pc' Ls (v :: st)) : Go Z k cn sn M pc Ls (.ref a :: st) := by
  obtain ⟨p, l, e, R', s, m, args, below, meth, c, Q'⟩ := k
  obtain ⟨hx, hZ, hby, -, hown, -, -, -, ⟨a0, hw⟩, -⟩ := H
  subst hp
  intro T w
  obtain ⟨locs, X, F, OO⟩ := w
  obtain ⟨-, cl, q1, q2⟩ := OO.2.1 i _ hi
  obtain ⟨T', X', e', sg⟩ := getF X hx hZ hown (host := host) (Or.inr (hw _ w1)) Via.refl rfl ((q2.1 _ _ q1).2 j _ hj) (g := mkF m pc Ls (.ref a :: st)) rfl rfl (hb hby hd)
  obtain ⟨t, o, hs, r⟩ := g T' ⟨_, X', F, e' ▸ OO⟩
  exact ⟨t, o, sg _ hs, r⟩
theorem s_putf (H : Ok Z k R Q y b ml rt) {i j idx kk : Nat} {a : Addr} {C O n d : String} {fs : List Fd} {v v0 : Value} {ty : FieldType} (hd : decode b pc = .ok (.putfield idx, 3)) (w1 : Jvm.Cond.fieldLink y.cls idx O n d ∈ tables_1) (w2 : Jvm.Cond.lays C O n d ∈ tables_1 ∨ (Jvm.Cond.laysFinal C O n d ∈ tables_1 ∧ y.cls = O ∧ y.name = "<init>")) (w3 : Jvm.Cond.instantiable C kk ∈ tables_1)
    (hty : parseFieldDescriptor d = some ty) (hn : narrow ty v = v) (hf : fits ty v = true) (hi : M[i]? = some (a, Obj Z C fs)) (hj : fs[j]? = some (O, n, d, v0)) (hp : pc + 3 = pc') (g : Go Z k cn sn (M.set i (a, Obj Z C (fs.set j (O, n, d, v)))) pc' Ls st) : Go Z k cn sn M pc Ls (v :: .ref a :: st) := by
  obtain ⟨p, l, e, R', s, m, args, below, meth, c, Q'⟩ := k
  obtain ⟨hx, hZ, hby, -, hown, hnm, -, -, ⟨a0, hw⟩, -⟩ := H
  subst hp
  intro T w
  obtain ⟨locs, X, F, OO⟩ := w
  obtain ⟨q0, cl, q1, q2⟩ := OO.2.1 i _ hi
  obtain ⟨T', h', X', e', W, sg⟩ := putF X hx hZ hown (host := "") (Or.inl (hw _ w1)) Via.refl rfl ((q2.1 _ _ q1).2 j _ hj) (q2.1 _ _ q1).1 (w2.imp (fun q => hw _ q) fun q => ⟨hw _ q.1, q.2.1, hnm.trans q.2.2⟩) (hw _ w3) hty hn hf (g := mkF m pc Ls (v :: .ref a :: st)) rfl rfl (hb hby hd)
  obtain ⟨t, o, hs, r⟩ := g T' ⟨_, X', Fr.snoc X' F q0, e' ▸ OO.upd hi W fun c hc1 hc => hc.put hj hc1 W⟩
  exact ⟨t, o, sg _ hs, r⟩
def Dflt (C : String) (f : Fd) : Prop := (Jvm.Cond.lays C f.1 f.2.1 f.2.2.1 ∈ tables_1 ∨ Jvm.Cond.laysFinal C f.1 f.2.1 f.2.2.1 ∈ tables_1) ∧ ∃ ty, parseFieldDescriptor f.2.2.1 = some ty ∧ f.2.2.2 = defaultValue ty
theorem s_new (H : Ok Z k R Q y b ml rt) {idx n cn' sn' : Nat} {C : String} (fs : List Fd) (hd : decode b pc = .ok (.new idx, 3)) (w1 : Jvm.Cond.classLink y.cls idx C ∈ tables_1) (w2 : Jvm.Cond.instantiable C n ∈ tables_1) (w3 : Jvm.Cond.initialized C ∈ tables_1) (hD : ∀ f ∈ fs, Dflt C f) (hN : (fs.map fun f => f.2.1).Nodup) (hc : cn + 1 = cn') (hs : sn + n = sn') (hc' : cn' ≤ R.cells) (hs' : sn' ≤ R.slots) (hp : pc + 3 = pc')
    (g : ∀ a, Go Z k cn' sn' ((a, Obj Z C fs) :: M) pc' Ls (.ref a :: st)) : Go Z k cn sn M pc Ls st := by
  obtain ⟨p, l, e, R', s, m, args, below, meth, c, Q'⟩ := k
  obtain ⟨hx, hZ, hby, -, hown, hnm, -, -, ⟨a0, hw⟩, rfl, -⟩ := H
  subst hp hc hs
  intro T w
  obtain ⟨locs, X, F, OO⟩ := w
  obtain ⟨T', h', X', e', E, A, D, ⟨cell, hcell, -⟩, sg⟩ := newO X hx hZ hown (hw _ w1) (hw _ w2) (hw _ w3) rfl (g := mkF m pc Ls st) rfl (hb hby hd) hc' hs'
  have hL : ∀ f ∈ fs, Laid Z a0 C f.1 f.2.1 f.2.2.1 := fun f hf => (hD f hf).1.imp (fun q => hw _ q) fun q => hw _ q
  have hB : Obj Z C fs cell := by
    refine ⟨fun h2 a2 hc2 => ⟨exa_at_cell A hcell hc2, fun i f hf => ?_⟩, fun i j f f' hf hf' es => ?_⟩
    · have hm := List.mem_of_getElem? hf
      obtain ⟨-, ty, h1, h2⟩ := hD f hm
      rw [h2]
      exact fld_at_cell (D (hL f hm) h1) hcell hc2
    · obtain ⟨-, ty, h1, -⟩ := hD f (List.mem_of_getElem? hf)
      obtain ⟨-, ty', h1', -⟩ := hD f' (List.mem_of_getElem? hf')
      have hne : f.2.1 = f'.2.1 := Classical.byContradiction fun q => slot_ne (hL f (List.mem_of_getElem? hf)) (hL f' (List.mem_of_getElem? hf')) q h1 h1' es
      rw [List.nodup_iff_pairwise_ne, List.pairwise_iff_getElem] at hN
      obtain ⟨hi, rfl⟩ := List.getElem?_eq_some_iff.mp hf
      obtain ⟨hj, rfl⟩ := List.getElem?_eq_some_iff.mp hf'
      rcases Nat.lt_trichotomy i j with lt | rfl | lt
      · exact (hN i j (by simpa using hi) (by simpa using hj) lt (by simpa using hne)).elim
      · rfl
      · exact (hN j i (by simpa using hj) (by simpa using hi) lt (by simpa using hne.symm)).elim
  obtain ⟨t, o, hs, r⟩ := g _ T' ⟨_, X', F, e' ▸ OO.new E hcell hB⟩
  exact ⟨t, o, sg _ hs, r⟩
theorem s_newarr_int (H : Ok Z k R Q y b ml rt) {cn' sn' cap : Nat} {n : Int32} (hd : decode b pc = .ok (.newarray .int, 2)) (w1 : Jvm.Cond.arrayClass .int ∈ tables_1) (hn : ¬ n < 0) (hcap : n.toNatClampNeg ≤ cap) (hb8 : cap * 8 ≤ 536870912) (hc : cn + 1 = cn') (hs : sn + cap = sn') (hc' : cn' ≤ R.cells) (hs' : sn' ≤ R.slots) (hp : pc + 2 = pc')
    (g : ∀ a, Go Z k cn' sn' ((a, ArI Z .int (List.replicate n.toNatClampNeg 0)) :: M) pc' Ls (.ref a :: st)) : Go Z k cn sn M pc Ls (.int n :: st) := by
  obtain ⟨p, l, e, R', s, m, args, below, meth, c, Q'⟩ := k
  obtain ⟨hx, hZ, hby, -, hown, hnm, -, -, ⟨a0, hw⟩, rfl, -⟩ := H
  subst hp hc hs
  intro T w
  obtain ⟨locs, X, F, OO⟩ := w
  obtain ⟨T', h', cA, X', e', E, A, sg⟩ := newP X hx hZ (aty := .int) (hw _ w1) rfl (g := mkF m pc Ls (.int n :: st)) rfl (hb hby hd) rfl hn hcap hb8 hc' hs'
  have hB : ArI Z .int (List.replicate n.toNatClampNeg 0) (newA cA .int n) := ⟨A.2.1, A.2.2, by simp [newA, defaultValue], by simp; omega, fun x hx => by rw [List.eq_of_mem_replicate hx]; rfl⟩
  obtain ⟨t, o, hs, r⟩ := g _ T' ⟨_, X', F, e' ▸ OO.new E A.1 hB⟩
  exact ⟨t, o, sg _ hs, r⟩
theorem s_newarr_byte (H : Ok Z k R Q y b ml rt) {cn' sn' cap : Nat} {n : Int32} (hd : decode b pc = .ok (.newarray .byte, 2)) (w1 : Jvm.Cond.arrayClass .byte ∈ tables_1) (hn : ¬ n < 0) (hcap : n.toNatClampNeg ≤ cap) (hb8 : cap * 8 ≤ 536870912) (hc : cn + 1 = cn') (hs : sn + cap = sn') (hc' : cn' ≤ R.cells) (hs' : sn' ≤ R.slots) (hp : pc + 2 = pc')
    (g : ∀ a, Go Z k cn' sn' ((a, ArI Z .byte (List.replicate n.toNatClampNeg 0)) :: M) pc' Ls (.ref a :: st)) : Go Z k cn sn M pc Ls (.int n :: st) := by
  obtain ⟨p, l, e, R', s, m, args, below, meth, c, Q'⟩ := k
  obtain ⟨hx, hZ, hby, -, hown, hnm, -, -, ⟨a0, hw⟩, rfl, -⟩ := H
  subst hp hc hs
  intro T w
  obtain ⟨locs, X, F, OO⟩ := w
  obtain ⟨T', h', cA, X', e', E, A, sg⟩ := newP X hx hZ (aty := .byte) (hw _ w1) rfl (g := mkF m pc Ls (.int n :: st)) rfl (hb hby hd) rfl hn hcap hb8 hc' hs'
  have hB : ArI Z .byte (List.replicate n.toNatClampNeg 0) (newA cA .byte n) := ⟨A.2.1, A.2.2, by simp [newA, defaultValue], by simp; omega, fun x hx => by rw [List.eq_of_mem_replicate hx]; rfl⟩
  obtain ⟨t, o, hs, r⟩ := g _ T' ⟨_, X', F, e' ▸ OO.new E A.1 hB⟩
  exact ⟨t, o, sg _ hs, r⟩
theorem s_newarr_bool (H : Ok Z k R Q y b ml rt) {cn' sn' cap : Nat} {n : Int32} (hd : decode b pc = .ok (.newarray .boolean, 2)) (w1 : Jvm.Cond.arrayClass .boolean ∈ tables_1) (hn : ¬ n < 0) (hcap : n.toNatClampNeg ≤ cap) (hb8 : cap * 8 ≤ 536870912) (hc : cn + 1 = cn') (hs : sn + cap = sn') (hc' : cn' ≤ R.cells) (hs' : sn' ≤ R.slots) (hp : pc + 2 = pc')
    (g : ∀ a, Go Z k cn' sn' ((a, ArI Z .boolean (List.replicate n.toNatClampNeg 0)) :: M) pc' Ls (.ref a :: st)) : Go Z k cn sn M pc Ls (.int n :: st) := by
  obtain ⟨p, l, e, R', s, m, args, below, meth, c, Q'⟩ := k
  obtain ⟨hx, hZ, hby, -, hown, hnm, -, -, ⟨a0, hw⟩, rfl, -⟩ := H
  subst hp hc hs
  intro T w
  obtain ⟨locs, X, F, OO⟩ := w
  obtain ⟨T', h', cA, X', e', E, A, sg⟩ := newP X hx hZ (aty := .boolean) (hw _ w1) rfl (g := mkF m pc Ls (.int n :: st)) rfl (hb hby hd) rfl hn hcap hb8 hc' hs'
  have hB : ArI Z .boolean (List.replicate n.toNatClampNeg 0) (newA cA .boolean n) := ⟨A.2.1, A.2.2, by simp [newA, defaultValue], by simp; omega, fun x hx => by rw [List.eq_of_mem_replicate hx]; rfl⟩
  obtain ⟨t, o, hs, r⟩ := g _ T' ⟨_, X', F, e' ▸ OO.new E A.1 hB⟩
  exact ⟨t, o, sg _ hs, r⟩
theorem s_newarr_long (H : Ok Z k R Q y b ml rt) {cn' sn' cap : Nat} {n : Int32} (hd : decode b pc = .ok (.newarray .long, 2)) (w1 : Jvm.Cond.arrayClass .long ∈ tables_1) (hn : ¬ n < 0) (hcap : n.toNatClampNeg ≤ cap) (hb8 : cap * 8 ≤ 536870912) (hc : cn + 1 = cn') (hs : sn + cap = sn') (hc' : cn' ≤ R.cells) (hs' : sn' ≤ R.slots) (hp : pc + 2 = pc')
    (g : ∀ a, Go Z k cn' sn' ((a, ArL Z (List.replicate n.toNatClampNeg 0)) :: M) pc' Ls (.ref a :: st)) : Go Z k cn sn M pc Ls (.int n :: st) := by
  obtain ⟨p, l, e, R', s, m, args, below, meth, c, Q'⟩ := k
  obtain ⟨hx, hZ, hby, -, hown, hnm, -, -, ⟨a0, hw⟩, rfl, -⟩ := H
  subst hp hc hs
  intro T w
  obtain ⟨locs, X, F, OO⟩ := w
  obtain ⟨T', h', cA, X', e', E, A, sg⟩ := newP X hx hZ (aty := .long) (hw _ w1) rfl (g := mkF m pc Ls (.int n :: st)) rfl (hb hby hd) rfl hn hcap hb8 hc' hs'
  have hB : ArL Z (List.replicate n.toNatClampNeg 0) (newA cA .long n) := ⟨A.2.1, A.2.2, by simp [newA, defaultValue], by simp; omega⟩
  obtain ⟨t, o, hs, r⟩ := g _ T' ⟨_, X', F, e' ▸ OO.new E A.1 hB⟩
  exact ⟨t, o, sg _ hs, r⟩
/-! OWN KIT 3: contracts and calls -/
def MQ (Z : State) (rm : Room) (Q : Option Value → Hp → Prop) (U : State) (o : Outcome) (U' : State) : Prop := ∃ v L, o = .returned v ∧ (Fr Z.heap.size L ∧ ∃ M, Q v M ∧ Own Z U'.heap M) ∧ FrameEnd U o U' L rm.cells rm.slots
def Met (Z : State) (y : MethodName) (b : ByteArray) (ml : Nat) (rt : Option FieldType) (rm : Room) (as : List Value) (M : Hp) (Q : Option Value → Hp → Prop) : Prop :=
  ∀ (l : Launch) (h0 : Heap), Own Z h0 M → MetFree l y (head1 [Jvm.Cond.code y b ml rt] rm) (fun a U => a = as.toArray ∧ Z.Warmed39 U.vm ∧ U.heap = h0) (fun _ _ _ _ _ => True) (fun _ U o U' => ∃ v L, o = .returned v ∧ (Fr Z.heap.size L ∧ ∃ M, Q v M ∧ Own Z U'.heap M) ∧ FrameEnd U o U' L rm.cells rm.slots)
theorem met_of {ws : List Jvm.Cond} {as : List Value} {rm : Room} {h0 : Heap} (l : Launch) (hT : Tb Z) (hpl : plainFor y = true) (hef : ∀ m, entryFrame m as.toArray ml = mkF m 0 Ls []) (hO : Own Z h0 M) (body : ∀ k, Ok Z k rm Q y b ml rt → Go Z k 0 0 M 0 Ls []) :
    MetFree l y (head1 (Jvm.Cond.code y b ml rt :: ws) rm) (fun a U => a = as.toArray ∧ Z.Warmed39 U.vm ∧ U.heap = h0) (fun _ _ _ _ _ => True) (fun _ U o U' => ∃ v L, o = .returned v ∧ (Fr Z.heap.size L ∧ ∃ M, Q v M ∧ Own Z U'.heap M) ∧ FrameEnd U o U' L rm.cells rm.slots) := by
  refine MetFree.of_bodySF hpl hisR ?_
  intro p e s m args below meth c s₁ Bd hml0 hP hK
  obtain ⟨rfl, hZ, hh⟩ := hP
  have X0 : Stand p l e rm s m as.toArray below meth c s₁ [] 0 0 := Stand.of_body Bd
  have e0 : s₁.heap = h0 := by rw [← hh, Bd.state]; rfl
  obtain ⟨t, o, hs, r⟩ := body (p, l, e, rm, s, m, as.toArray, below, meth, c, Q) ⟨Bd.exec, hZ, Bd.bytes, hml0, findClass_of_methodNamed Bd.named, (name_of_methodNamed Bd.named Bd.method).1, Bd.returns, Bd.notSynchronized, hT, rfl, rfl⟩ s₁ ⟨[], X0, Fr.nil _, e0 ▸ hO⟩
  exact ⟨t, o, castTop (hef m) hs, r⟩
theorem Met.of {as : List Value} {rm : Room} (hT : Tb Z) (hpl : plainFor y = true) (hef : ∀ m, entryFrame m as.toArray ml = mkF m 0 Ls []) (body : ∀ k, Ok Z k rm Q y b ml rt → Go Z k 0 0 M 0 Ls []) : Met Z y b ml rt rm as M Q := fun l h0 hO => met_of l hT hpl hef hO body
theorem Met.mono {as : List Value} {rm : Room} {Q' : Option Value → Hp → Prop} (h : Met Z y b ml rt rm as M Q) (q : ∀ v M, Q v M → Q' v M) : Met Z y b ml rt rm as M Q' := fun l h0 hO p e ha hc hk s m args below hf happ hP hK => by
  obtain ⟨n, o, h1, h2, h3, v, L, h4, ⟨h5, M', h6, h7⟩, h8⟩ := h l h0 hO p e ha hc hk s m args below hf happ hP hK
  exact ⟨n, o, h1, h2, h3, v, L, h4, ⟨h5, M', q _ _ h6, h7⟩, h8⟩
theorem s_ret (H : Ok Z k R Q y b ml (some ty)) {i : Instr} {w : Value} (hd : decode b pc = .ok (i, 1)) (hn : narrow ty w = w)
    (hi : (i = .ireturn ∧ (ty = .int ∨ ty = .boolean ∨ ty = .byte ∨ ty = .char ∨ ty = .short) ∧ ∃ z, w = .int z) ∨ (i = .lreturn ∧ ty = .long ∧ ∃ z, w = .long z) ∨ (i = .dreturn ∧ ty = .double ∧ ∃ z, w = .double z) ∨ (i = .freturn ∧ ty = .float ∧ ∃ z, w = .float z) ∨ (i = .areturn ∧ ty.isReference = true ∧ w.isRef = true))
    (hc : cn ≤ R.cells) (hs : sn ≤ R.slots) (q : Q (some w) M) : Go Z k cn sn M pc Ls (w :: st) := by
  obtain ⟨p, l, e, R', s, m, args, below, meth, c, Q'⟩ := k
  obtain ⟨hx, hZ, hby, -, -, -, hret, hlk, -, rfl, rfl⟩ := H
  intro T w'
  obtain ⟨locs, X, F, O⟩ := w'
  obtain ⟨fs, hr, hrun, hended, hW, hsame⟩ := X.leave (v := some w) (fun h => by rw [hret] at h; cases h) hlk
  exact ⟨_, _, retOut X hx hret hn hi (hb hby hd) hr, hrun, hended, _, _, rfl, ⟨F, M, q, O⟩, ⟨_, rfl⟩, hW, hsame.mono hc hs⟩
theorem s_iret (H : Ok Z k R Q y b ml (some ty)) {z : Int32} (hd : decode b pc = .ok (.ireturn, 1)) (hn : narrow ty (.int z) = .int z) (ht : ty = .int ∨ ty = .boolean ∨ ty = .byte ∨ ty = .char ∨ ty = .short) (hc : cn ≤ R.cells) (hs : sn ≤ R.slots) (q : Q (some (.int z)) M) : Go Z k cn sn M pc Ls (.int z :: st) := s_ret H hd hn (Or.inl ⟨rfl, ht, z, rfl⟩) hc hs q
theorem s_lret (H : Ok Z k R Q y b ml (some .long)) {z : Int64} (hd : decode b pc = .ok (.lreturn, 1)) (hc : cn ≤ R.cells) (hs : sn ≤ R.slots) (q : Q (some (.long z)) M) : Go Z k cn sn M pc Ls (.long z :: st) := s_ret H hd rfl (Or.inr (Or.inl ⟨rfl, rfl, z, rfl⟩)) hc hs q
theorem s_aret (H : Ok Z k R Q y b ml (some ty)) {a : Addr} (hd : decode b pc = .ok (.areturn, 1)) (hn : narrow ty (.ref a) = .ref a) (ht : ty.isReference = true) (hc : cn ≤ R.cells) (hs : sn ≤ R.slots) (q : Q (some (.ref a)) M) : Go Z k cn sn M pc Ls (.ref a :: st) := s_ret H hd hn (Or.inr (Or.inr (Or.inr (Or.inr ⟨rfl, ht, rfl⟩)))) hc hs q
theorem s_vret (H : Ok Z k R Q y b ml none) (hd : decode b pc = .ok (.return_, 1)) (hc : cn ≤ R.cells) (hs : sn ≤ R.slots) (q : Q none M) : Go Z k cn sn M pc Ls [] := by
  obtain ⟨p, l, e, R', s, m, args, below, meth, c, Q'⟩ := k
  obtain ⟨hx, hZ, hby, -, -, -, hret, hlk, -, rfl, rfl⟩ := H
  intro T w'
  obtain ⟨locs, X, F, O⟩ := w'
  obtain ⟨fs, hr, hrun, hended, hW, hsame⟩ := X.leave (v := none) (fun _ => rfl) hlk
  exact ⟨_, _, X.returnOut hx hret (hb hby hd) hr, hrun, hended, _, _, rfl, ⟨F, M, q, O⟩, ⟨_, rfl⟩, hW, hsame.mono hc hs⟩
theorem s_objinit (H : Ok Z k R Q y b ml rt) {idx : Nat} {a : Addr} (hd : decode b pc = .ok (.invokespecial idx, 3)) (w1 : Jvm.Cond.methodLink y.cls idx Lib.objectInit ∈ tables_1) (w2 : Jvm.Cond.instanceMethod Lib.objectInit ∈ tables_1) (w3 : Jvm.Cond.code Lib.objectInit ⟨#[0xb1]⟩ 1 none ∈ tables_1) (hsz : Ls.size = ml) (hf : 1 ≤ R.frames) (hl : (st.map fun v => v.category).sum + 12 ≤ R.locals) (hp : pc + 3 = pc') (g : Go Z k cn sn M pc' Ls st) : Go Z k cn sn M pc Ls (.ref a :: st) := by
  obtain ⟨p, l, e, R', s, m, args, below, meth, c, Q'⟩ := k
  obtain ⟨hx, hZ, hby, hml, hown, hnm, -, -, ⟨a0, hw⟩, rfl, -⟩ := H
  subst hp
  intro T w
  obtain ⟨locs, X, F, OO⟩ := w
  obtain ⟨T', X', e', sg⟩ := initO X hx hZ hown (hw _ w1) (hw _ w2) (hw _ w3) rfl (g := mkF m pc Ls (.ref a :: st)) rfl (by rw [hml]; exact hsz) rfl (hb hby hd) hf (W := (st.map fun v => v.category).sum) (by show 2 * 0 + _ ≤ _; omega) hl
  obtain ⟨t, o, hs, r⟩ := g T' ⟨_, X', F, e' ▸ OO⟩
  exact ⟨t, o, sg _ hs, r⟩
theorem s_static (H : Ok Z k R Q y b ml rt) {idx cn' sn' : Nat} {y' : MethodName} {b' : ByteArray} {ml' : Nat} {rt' : Option FieldType} {rm : Room} {as rest : List Value} {Q' : Option Value → Hp → Prop} {sig : MethodDescriptor}
    (hM : Met Z y' b' ml' rt' rm as M Q') (hd : decode b pc = .ok (.invokestatic idx, 3)) (w1 : Jvm.Cond.methodLink y.cls idx y' ∈ tables_1) (w2 : Jvm.Cond.static y' ∈ tables_1) (w3 : Jvm.Cond.initialized y'.cls ∈ tables_1) (w4 : Jvm.Cond.code y' b' ml' rt' ∈ tables_1) (hy : y'.cls ≠ "java/lang/invoke/MethodHandle" ∧ y'.cls ≠ "java/lang/invoke/VarHandle")
    (hsig : parseMethodDescriptor y'.desc = some sig) (hlen : as.length = sig.parameters.length) (hst : st = as.reverse ++ rest) (hsz : Ls.size = ml) (hf : rm.frames + 1 ≤ R.frames) (hl : (rest.map fun v => v.category).sum + (ml' + 11) + rm.locals ≤ R.locals) (hc : cn + rm.cells = cn') (hs : sn + rm.slots = sn') (hc' : cn' ≤ R.cells) (hs' : sn' ≤ R.slots) (hp : pc + 3 = pc')
    (g : ∀ v M', Q' v M' → Go Z k cn' sn' M' pc' Ls (v.toList ++ rest)) : Go Z k cn sn M pc Ls st := by
  obtain ⟨p, l, e, R', s, m, args, below, meth, c, Q''⟩ := k
  obtain ⟨hx, hZ, hby, hml, hown, hnm, -, -, ⟨a0, hw⟩, rfl, -⟩ := H
  subst hp hc hs hst
  intro T w
  obtain ⟨locs, X, F, OO⟩ := w
  obtain ⟨v, _, ⟨T', L', k', n'⟩, -, X', ⟨Lc, ⟨hF, M', hQ, hO⟩, q1, q2, q3⟩, sg⟩ := Jvm.LawKit.callS X hx (y := y') hown (mvT hZ (hw _ w1)) (mvT hZ (hw _ w2)) (mvT hZ (hw _ w3)) (mvT hZ (hw _ w4)) hy (backOf (W := (rest.map fun v => v.category).sum) (Q := fun v h L => Fr Z.heap.size L ∧ ∃ M', Q' v M' ∧ Own Z h M') (hM l _ OO) hZ (hw _ w4) (hw _ w3) hf hl) (g := mkF m pc Ls (as.reverse ++ rest)) rfl (by rw [hml]; exact hsz) (argsL := as) (rest := rest) (lenOf (ps := sig.parameters) (r := sig.returnType) hsig hlen) rfl (by show 2 * 0 + _ ≤ _; omega) (hb hby hd) (fun _ _ => ⟨rfl, rfl, hc', hs'⟩)
  dsimp only [Pt.U, Pt.locs, Pt.cells, Pt.slots] at X' q1 q2 q3 sg hO
  subst q1 q2 q3
  obtain ⟨t, o, hs, r⟩ := g v M' hQ T' ⟨_, X', Fr.app F hF, hO⟩
  exact ⟨t, o, sg _ hs, r⟩
theorem s_init (H : Ok Z k R Q y b ml rt) {idx cn' sn' : Nat} {a : Addr} {y' : MethodName} {b' : ByteArray} {ml' : Nat} {rm : Room} {as rest : List Value} {Q' : Option Value → Hp → Prop} {sig : MethodDescriptor}
    (hM : Met Z y' b' ml' none rm (.ref a :: as) M Q') (hd : decode b pc = .ok (.invokespecial idx, 3)) (hy1 : y'.name = "<init>") (w1 : Jvm.Cond.methodLink y.cls idx y' ∈ tables_1) (w2 : Jvm.Cond.instanceMethod y' ∈ tables_1) (w3 : Jvm.Cond.initialized y'.cls ∈ tables_1) (w4 : Jvm.Cond.code y' b' ml' none ∈ tables_1) (hy : y'.cls ≠ "java/lang/invoke/MethodHandle" ∧ y'.cls ≠ "java/lang/invoke/VarHandle")
    (hsig : parseMethodDescriptor y'.desc = some sig) (hlen : as.length = sig.parameters.length) (hst : st = as.reverse ++ .ref a :: rest) (hsz : Ls.size = ml) (hf : rm.frames + 1 ≤ R.frames) (hl : (rest.map fun v => v.category).sum + (ml' + 11) + rm.locals ≤ R.locals) (hc : cn + rm.cells = cn') (hs : sn + rm.slots = sn') (hc' : cn' ≤ R.cells) (hs' : sn' ≤ R.slots) (hp : pc + 3 = pc')
    (g : ∀ v M', Q' v M' → Go Z k cn' sn' M' pc' Ls (v.toList ++ rest)) : Go Z k cn sn M pc Ls st := by
  obtain ⟨p, l, e, R', s, m, args, below, meth, c, Q''⟩ := k
  obtain ⟨hx, hZ, hby, hml, hown, hnm, -, -, ⟨a0, hw⟩, rfl, -⟩ := H
  subst hp hc hs hst
  intro T w
  obtain ⟨locs, X, F, OO⟩ := w
  obtain ⟨v, _, ⟨T', L', k', n'⟩, -, X', ⟨Lc, ⟨hF, M', hQ, hO⟩, q1, q2, q3⟩, sg⟩ := X.specialBack hx (y := y') hy1 hown (mvT hZ (hw _ w1)) (mvT hZ (hw _ w2)) (mvT hZ (hw _ w4)) hy (backOf (W := (rest.map fun v => v.category).sum) (Q := fun v h L => Fr Z.heap.size L ∧ ∃ M', Q' v M' ∧ Own Z h M') (hM l _ OO) hZ (hw _ w4) (hw _ w3) hf hl) (g := mkF m pc Ls (as.reverse ++ .ref a :: rest)) rfl (by rw [hml]; exact hsz) (Steps.refl _) (a := a) (argsL := as) (rest := rest) (lenOf (ps := sig.parameters) (r := sig.returnType) hsig hlen) rfl (by show 2 * 0 + _ ≤ _; omega) (hb hby hd) (fun _ _ => ⟨rfl, rfl, hc', hs'⟩)
  dsimp only [Pt.U, Pt.locs, Pt.cells, Pt.slots] at X' q1 q2 q3 sg hO
  subst q1 q2 q3
  obtain ⟨t, o, hs, r⟩ := g v M' hQ T' ⟨_, X', Fr.app F hF, hO⟩
  exact ⟨t, o, sg.trans hs, r⟩
theorem s_virtual (H : Ok Z k R Q y b ml rt) {i idx cn' sn' : Nat} {a : Addr} {C : String} {fs : List Fd} {y' : MethodName} {b' : ByteArray} {ml' : Nat} {rt' : Option FieldType} {rm : Room} {as rest : List Value} {Q' : Option Value → Hp → Prop} {sig : MethodDescriptor}
    (hM : Met Z y' b' ml' rt' rm (.ref a :: as) M Q') (hd : decode b pc = .ok (.invokevirtual idx, 3)) (hi : M[i]? = some (a, Obj Z C fs)) (w1 : Jvm.Cond.methodLink y.cls idx y' ∈ tables_1) (w2 : Jvm.Cond.declares y' ∈ tables_1) (w5 : Jvm.Cond.selects C y' y' ∈ tables_1) (w6 : Jvm.Cond.instanceMethod y' ∈ tables_1) (w3 : Jvm.Cond.initialized y'.cls ∈ tables_1) (w4 : Jvm.Cond.code y' b' ml' rt' ∈ tables_1) (hy : y'.cls ≠ "java/lang/invoke/MethodHandle" ∧ y'.cls ≠ "java/lang/invoke/VarHandle")
    (hsig : parseMethodDescriptor y'.desc = some sig) (hlen : as.length = sig.parameters.length) (hst : st = as.reverse ++ .ref a :: rest) (hsz : Ls.size = ml) (hf : rm.frames + 1 ≤ R.frames) (hl : (rest.map fun v => v.category).sum + (ml' + 11) + rm.locals ≤ R.locals) (hc : cn + rm.cells = cn') (hs : sn + rm.slots = sn') (hc' : cn' ≤ R.cells) (hs' : sn' ≤ R.slots) (hp : pc + 3 = pc')
    (g : ∀ v M', Q' v M' → Go Z k cn' sn' M' pc' Ls (v.toList ++ rest)) : Go Z k cn sn M pc Ls st := by
  obtain ⟨p, l, e, R', s, m, args, below, meth, c, Q''⟩ := k
  obtain ⟨hx, hZ, hby, hml, hown, hnm, -, -, ⟨a0, hw⟩, rfl, -⟩ := H
  subst hp hc hs hst
  intro T w
  obtain ⟨locs, X, F, OO⟩ := w
  obtain ⟨-, cl, c1, c2⟩ := OO.2.1 i _ hi
  obtain ⟨cq, kq, qa, qb, qc⟩ := isOf hZ rfl (c2.1 _ _ c1).1
  obtain ⟨v, _, ⟨T', L', k', n'⟩, -, X', ⟨Lc, ⟨hF, M', hQ, hO⟩, q1, q2, q3⟩, sg⟩ := X.virtualBack hx (y := y') (z := y') hown (mvT hZ (hw _ w1)) (mvT hZ (hw _ w2)) (notFace_of_selects (args := #[]) (mvT hZ (hw _ w5))) (mvT hZ (hw _ w5)) (mvT hZ (hw _ w6)) hy (backOf (W := (rest.map fun v => v.category).sum) (Q := fun v h L => Fr Z.heap.size L ∧ ∃ M', Q' v M' ∧ Own Z h M') (hM l _ OO) hZ (hw _ w4) (hw _ w3) hf hl) qa qc (g := mkF m pc Ls (as.reverse ++ .ref a :: rest)) rfl (by rw [hml]; exact hsz) (Steps.refl _) (argsL := as) (rest := rest) (lenOf (ps := sig.parameters) (r := sig.returnType) hsig hlen) rfl (by show 2 * 0 + _ ≤ _; omega) (hb hby hd) (fun _ _ => ⟨rfl, rfl, hc', hs'⟩)
  dsimp only [Pt.U, Pt.locs, Pt.cells, Pt.slots] at X' q1 q2 q3 sg hO
  subst q1 q2 q3
  obtain ⟨t, o, hs, r⟩ := g v M' hQ T' ⟨_, X', Fr.app F hF, hO⟩
  exact ⟨t, o, sg.trans hs, r⟩
theorem s_priv (H : Ok Z k R Q y b ml rt) {i idx cn' sn' : Nat} {a : Addr} {C : String} {fs : List Fd} {y' y0 : MethodName} {b' : ByteArray} {ml' : Nat} {rt' : Option FieldType} {rm : Room} {as rest : List Value} {Q' : Option Value → Hp → Prop} {sig : MethodDescriptor}
    (hM : Met Z y' b' ml' rt' rm (.ref a :: as) M Q') (hd : decode b pc = .ok (.invokevirtual idx, 3)) (hi : M[i]? = some (a, Obj Z C fs)) (w1 : Jvm.Cond.methodLink y.cls idx y' ∈ tables_1) (w2 : Jvm.Cond.privateMethod y' ∈ tables_1) (w5 : Jvm.Cond.selects y'.cls y0 y0 ∈ tables_1) (h0 : y0.cls = y'.cls) (w6 : Jvm.Cond.instanceMethod y' ∈ tables_1) (w3 : Jvm.Cond.initialized y'.cls ∈ tables_1) (w4 : Jvm.Cond.code y' b' ml' rt' ∈ tables_1) (hy : y'.cls ≠ "java/lang/invoke/MethodHandle" ∧ y'.cls ≠ "java/lang/invoke/VarHandle")
    (hsig : parseMethodDescriptor y'.desc = some sig) (hlen : as.length = sig.parameters.length) (hst : st = as.reverse ++ .ref a :: rest) (hsz : Ls.size = ml) (hf : rm.frames + 1 ≤ R.frames) (hl : (rest.map fun v => v.category).sum + (ml' + 11) + rm.locals ≤ R.locals) (hc : cn + rm.cells = cn') (hs : sn + rm.slots = sn') (hc' : cn' ≤ R.cells) (hs' : sn' ≤ R.slots) (hp : pc + 3 = pc')
    (g : ∀ v M', Q' v M' → Go Z k cn' sn' M' pc' Ls (v.toList ++ rest)) : Go Z k cn sn M pc Ls st := by
  obtain ⟨p, l, e, R', s, m, args, below, meth, c, Q''⟩ := k
  obtain ⟨hx, hZ, hby, hml, hown, hnm, -, -, ⟨a0, hw⟩, rfl, -⟩ := H
  subst hp hc hs hst
  intro T w
  obtain ⟨locs, X, F, OO⟩ := w
  obtain ⟨-, cl, c1, c2⟩ := OO.2.1 i _ hi
  obtain ⟨cl', d1, d2⟩ := (c2.1 _ _ c1).1.cell
  have hpriv : s.PrivateAt y' := Cond.privateMethod_at (mvP hZ (hw _ w2) (args := #[]))
  obtain ⟨mk, mM, hn, hm, hst, hab⟩ := Cond.instanceMethod_spec (mvT (args := #[]) hZ (hw _ w6))
  obtain ⟨c3, r3, m3, -, -, n3, -, kP, hk, hkI⟩ := Cond.selects_spec (mvT (args := #[]) hZ (hw _ w5))
  have e3 : m3.cls = mk.cls := by
    have u1 := findClass_of_methodNamed n3
    have u2 := findClass_of_methodNamed hn
    rw [h0, u2] at u1; exact (Option.some.inj u1).symm
  rw [e3] at hk
  obtain ⟨mM', cM, hm2, -, -, -, -, -, -, hsg⟩ := Cond.code_spec hn (mvT (args := #[]) hZ (hw _ w4))
  cases hm.symm.trans hm2
  obtain ⟨vm₁, X₁, st₁⟩ := X.invokevirtual hx hown (mvT hZ (hw _ w1)) hn hm hst hk hkI hy (a := a) d1 d2 (selectMethod_private hm (hpriv mk _ hn hm)) hm hab hk hkI (g := mkF m pc Ls (as.reverse ++ .ref a :: rest)) rfl (argsL := as) (rest := rest) (lenOf (ps := sig.parameters) (r := sig.returnType) hsig hlen _ hsg) rfl (hb hby hd)
  have hK := backOf (l := l) (p := p) (e := e) (below := below) (R := R') (args := args) (len := 3) (W := (rest.map fun v => v.category).sum) (Q := fun v h L => Fr Z.heap.size L ∧ ∃ M', Q' v M' ∧ Own Z h M') (hM l _ OO) hZ (hw _ w4) (hw _ w3) hf hl
  obtain ⟨v, ⟨T', L', k', n'⟩, X', ⟨Lc, ⟨hF, M', hQ, hO⟩, q1, q2, q3⟩, sg⟩ := hK m meth c ⟨T.setVm vm₁, locs, cn, sn⟩ (mkF m pc Ls rest) (.invokevirtual idx) mk (.ref a :: as).toArray X₁ rfl (by rw [hml]; exact hsz) (hb hby hd) (by show 2 * 0 + (rest.map fun v => v.category).sum ≤ _; omega) (X₁.named hn) ⟨rfl, rfl, hc', hs'⟩
  dsimp only [Pt.U, Pt.locs, Pt.cells, Pt.slots] at X' q1 q2 q3 sg hO
  subst q1 q2 q3
  obtain ⟨t, o, hs, r⟩ := g v M' hQ T' ⟨_, X', Fr.app F hF, hO⟩
  exact ⟨t, o, st₁ _ (fun acts => by rw [doInvoke_state]; exact sg.trans hs), r⟩
end Kit
theorem own_nat {m : Nat} (h : m < 2147483648) : m.toInt32.toNatClampNeg = m ∧ ¬ m.toInt32 < 0 ∧ m.toInt32.toInt = m := by
  have e : m.toInt32.toInt = m := Int32.toInt_ofNat_small (by omega)
  refine ⟨?_, ?_, e⟩
  · show m.toInt32.toInt.toNat = m
    rw [e]; rfl
  · rw [Int32.lt_iff_toInt_lt, e, show (0 : Int32).toInt = 0 from by decide]; omega
theorem own_lt {m n : Nat} (h : m < 2147483648) (h' : n < 2147483648) : m.toInt32 < n.toInt32 ↔ m < n := by rw [Int32.lt_iff_toInt_lt, (own_nat h).2.2, (own_nat h').2.2]; omega
theorem own_le {m n : Nat} (h : m < 2147483648) (h' : n < 2147483648) : m.toInt32 ≤ n.toInt32 ↔ m ≤ n := by rw [Int32.le_iff_toInt_le, (own_nat h).2.2, (own_nat h').2.2]; omega
theorem own_succ (m : Nat) : m.toInt32 + 1 = (m + 1).toInt32 := by
  show Int32.ofNat m + Int32.ofNat 1 = Int32.ofNat (m + 1)
  rw [← Int32.ofNat_add]
theorem allN {α : Type} {P : α → Prop} : ∀ x ∈ ([] : List α), P x := fun _ q => nomatch q
theorem allC {α : Type} {P : α → Prop} {z : α} {L : List α} (q : P z) (r : ∀ x ∈ L, P x) : ∀ x ∈ z :: L, P x := fun x h => (List.mem_cons.mp h).elim (fun u => u ▸ q) (r x)
abbrev y_1 : MethodName := ⟨"com/example/rekha/rekha/ActiveEdges", "<init>", "(I)V"⟩
theorem d1_0 : decode prog_2_method_1_code 0 = .ok (.aload_n 0, 1) := by decide +kernel
theorem d1_1 : decode prog_2_method_1_code 1 = .ok (.invokespecial 1, 3) := by decide +kernel
theorem d1_4 : decode prog_2_method_1_code 4 = .ok (.aload_n 0, 1) := by decide +kernel
theorem d1_5 : decode prog_2_method_1_code 5 = .ok (.iload_n 1, 1) := by decide +kernel
theorem d1_6 : decode prog_2_method_1_code 6 = .ok (.putfield 7, 3) := by decide +kernel
theorem d1_9 : decode prog_2_method_1_code 9 = .ok (.aload_n 0, 1) := by decide +kernel
theorem d1_10 : decode prog_2_method_1_code 10 = .ok (.iload_n 1, 1) := by decide +kernel
theorem d1_11 : decode prog_2_method_1_code 11 = .ok (.iconst 1, 1) := by decide +kernel
theorem d1_12 : decode prog_2_method_1_code 12 = .ok (.iadd, 1) := by decide +kernel
theorem d1_13 : decode prog_2_method_1_code 13 = .ok (.newarray .int, 2) := by decide +kernel
theorem d1_15 : decode prog_2_method_1_code 15 = .ok (.putfield 13, 3) := by decide +kernel
theorem d1_18 : decode prog_2_method_1_code 18 = .ok (.aload_n 0, 1) := by decide +kernel
theorem d1_19 : decode prog_2_method_1_code 19 = .ok (.iload_n 1, 1) := by decide +kernel
theorem d1_20 : decode prog_2_method_1_code 20 = .ok (.iconst 1, 1) := by decide +kernel
theorem d1_21 : decode prog_2_method_1_code 21 = .ok (.iadd, 1) := by decide +kernel
theorem d1_22 : decode prog_2_method_1_code 22 = .ok (.newarray .int, 2) := by decide +kernel
theorem d1_24 : decode prog_2_method_1_code 24 = .ok (.putfield 17, 3) := by decide +kernel
theorem d1_27 : decode prog_2_method_1_code 27 = .ok (.aload_n 0, 1) := by decide +kernel
theorem d1_28 : decode prog_2_method_1_code 28 = .ok (.iload_n 1, 1) := by decide +kernel
theorem d1_29 : decode prog_2_method_1_code 29 = .ok (.iconst 1, 1) := by decide +kernel
theorem d1_30 : decode prog_2_method_1_code 30 = .ok (.iadd, 1) := by decide +kernel
theorem d1_31 : decode prog_2_method_1_code 31 = .ok (.newarray .int, 2) := by decide +kernel
theorem d1_33 : decode prog_2_method_1_code 33 = .ok (.putfield 20, 3) := by decide +kernel
theorem d1_36 : decode prog_2_method_1_code 36 = .ok (.aload_n 0, 1) := by decide +kernel
theorem d1_37 : decode prog_2_method_1_code 37 = .ok (.iload_n 1, 1) := by decide +kernel
theorem d1_38 : decode prog_2_method_1_code 38 = .ok (.iconst 1, 1) := by decide +kernel
theorem d1_39 : decode prog_2_method_1_code 39 = .ok (.iadd, 1) := by decide +kernel
theorem d1_40 : decode prog_2_method_1_code 40 = .ok (.newarray .boolean, 2) := by decide +kernel
theorem d1_42 : decode prog_2_method_1_code 42 = .ok (.putfield 23, 3) := by decide +kernel
theorem d1_45 : decode prog_2_method_1_code 45 = .ok (.aload_n 0, 1) := by decide +kernel
theorem d1_46 : decode prog_2_method_1_code 46 = .ok (.aload_n 0, 1) := by decide +kernel
theorem d1_47 : decode prog_2_method_1_code 47 = .ok (.getfield 7, 3) := by decide +kernel
theorem d1_50 : decode prog_2_method_1_code 50 = .ok (.putfield 27, 3) := by decide +kernel
theorem d1_53 : decode prog_2_method_1_code 53 = .ok (.return_, 1) := by decide +kernel
theorem pl_1 : plainFor y_1 = true := plainFor_of_name (by first | (simp [plainName, overriddenIn]; done) | decide +kernel)
theorem pd_1 : parseMethodDescriptor "(I)V" = some ⟨[.int], none⟩ := by decide +kernel
abbrev y_3 : MethodName := ⟨"com/example/rekha/rekha/ActiveEdges", "insertBelow", "(II)V"⟩
theorem d3_0 : decode prog_2_method_7_code 0 = .ok (.aload_n 0, 1) := by decide +kernel
theorem d3_1 : decode prog_2_method_7_code 1 = .ok (.getfield 13, 3) := by decide +kernel
theorem d3_4 : decode prog_2_method_7_code 4 = .ok (.iload_n 1, 1) := by decide +kernel
theorem d3_5 : decode prog_2_method_7_code 5 = .ok (.aload_n 0, 1) := by decide +kernel
theorem d3_6 : decode prog_2_method_7_code 6 = .ok (.getfield 7, 3) := by decide +kernel
theorem d3_9 : decode prog_2_method_7_code 9 = .ok (.iastore, 1) := by decide +kernel
theorem d3_10 : decode prog_2_method_7_code 10 = .ok (.aload_n 0, 1) := by decide +kernel
theorem d3_11 : decode prog_2_method_7_code 11 = .ok (.getfield 17, 3) := by decide +kernel
theorem d3_14 : decode prog_2_method_7_code 14 = .ok (.iload_n 1, 1) := by decide +kernel
theorem d3_15 : decode prog_2_method_7_code 15 = .ok (.aload_n 0, 1) := by decide +kernel
theorem d3_16 : decode prog_2_method_7_code 16 = .ok (.getfield 7, 3) := by decide +kernel
theorem d3_19 : decode prog_2_method_7_code 19 = .ok (.iastore, 1) := by decide +kernel
theorem d3_20 : decode prog_2_method_7_code 20 = .ok (.aload_n 0, 1) := by decide +kernel
theorem d3_21 : decode prog_2_method_7_code 21 = .ok (.getfield 23, 3) := by decide +kernel
theorem d3_24 : decode prog_2_method_7_code 24 = .ok (.iload_n 1, 1) := by decide +kernel
theorem d3_25 : decode prog_2_method_7_code 25 = .ok (.iconst 1, 1) := by decide +kernel
theorem d3_26 : decode prog_2_method_7_code 26 = .ok (.bastore, 1) := by decide +kernel
theorem d3_27 : decode prog_2_method_7_code 27 = .ok (.aload_n 0, 1) := by decide +kernel
theorem d3_28 : decode prog_2_method_7_code 28 = .ok (.getfield 27, 3) := by decide +kernel
theorem d3_31 : decode prog_2_method_7_code 31 = .ok (.aload_n 0, 1) := by decide +kernel
theorem d3_32 : decode prog_2_method_7_code 32 = .ok (.getfield 7, 3) := by decide +kernel
theorem d3_35 : decode prog_2_method_7_code 35 = .ok (.if_icmp .ne 21, 3) := by decide +kernel
theorem d3_38 : decode prog_2_method_7_code 38 = .ok (.aload_n 0, 1) := by decide +kernel
theorem d3_39 : decode prog_2_method_7_code 39 = .ok (.getfield 20, 3) := by decide +kernel
theorem d3_42 : decode prog_2_method_7_code 42 = .ok (.iload_n 1, 1) := by decide +kernel
theorem d3_43 : decode prog_2_method_7_code 43 = .ok (.aload_n 0, 1) := by decide +kernel
theorem d3_44 : decode prog_2_method_7_code 44 = .ok (.getfield 7, 3) := by decide +kernel
theorem d3_47 : decode prog_2_method_7_code 47 = .ok (.iastore, 1) := by decide +kernel
theorem d3_48 : decode prog_2_method_7_code 48 = .ok (.aload_n 0, 1) := by decide +kernel
theorem d3_49 : decode prog_2_method_7_code 49 = .ok (.iload_n 1, 1) := by decide +kernel
theorem d3_50 : decode prog_2_method_7_code 50 = .ok (.putfield 27, 3) := by decide +kernel
theorem d3_53 : decode prog_2_method_7_code 53 = .ok (.goto 92, 3) := by decide +kernel
theorem d3_56 : decode prog_2_method_7_code 56 = .ok (.iload_n 2, 1) := by decide +kernel
theorem d3_57 : decode prog_2_method_7_code 57 = .ok (.aload_n 0, 1) := by decide +kernel
theorem d3_58 : decode prog_2_method_7_code 58 = .ok (.getfield 7, 3) := by decide +kernel
theorem d3_61 : decode prog_2_method_7_code 61 = .ok (.if_icmp .ne 29, 3) := by decide +kernel
theorem d3_64 : decode prog_2_method_7_code 64 = .ok (.aload_n 0, 1) := by decide +kernel
theorem d3_65 : decode prog_2_method_7_code 65 = .ok (.aload_n 0, 1) := by decide +kernel
theorem d3_66 : decode prog_2_method_7_code 66 = .ok (.getfield 27, 3) := by decide +kernel
theorem d3_69 : decode prog_2_method_7_code 69 = .ok (.invokevirtual 36, 3) := by decide +kernel
theorem d3_72 : decode prog_2_method_7_code 72 = .ok (.istore_n 3, 1) := by decide +kernel
theorem d3_73 : decode prog_2_method_7_code 73 = .ok (.aload_n 0, 1) := by decide +kernel
theorem d3_74 : decode prog_2_method_7_code 74 = .ok (.getfield 17, 3) := by decide +kernel
theorem d3_77 : decode prog_2_method_7_code 77 = .ok (.iload_n 3, 1) := by decide +kernel
theorem d3_78 : decode prog_2_method_7_code 78 = .ok (.iload_n 1, 1) := by decide +kernel
theorem d3_79 : decode prog_2_method_7_code 79 = .ok (.iastore, 1) := by decide +kernel
theorem d3_80 : decode prog_2_method_7_code 80 = .ok (.aload_n 0, 1) := by decide +kernel
theorem d3_81 : decode prog_2_method_7_code 81 = .ok (.getfield 20, 3) := by decide +kernel
theorem d3_84 : decode prog_2_method_7_code 84 = .ok (.iload_n 1, 1) := by decide +kernel
theorem d3_85 : decode prog_2_method_7_code 85 = .ok (.iload_n 3, 1) := by decide +kernel
theorem d3_86 : decode prog_2_method_7_code 86 = .ok (.iastore, 1) := by decide +kernel
theorem d3_87 : decode prog_2_method_7_code 87 = .ok (.goto 58, 3) := by decide +kernel
theorem d3_90 : decode prog_2_method_7_code 90 = .ok (.aload_n 0, 1) := by decide +kernel
theorem d3_91 : decode prog_2_method_7_code 91 = .ok (.getfield 13, 3) := by decide +kernel
theorem d3_94 : decode prog_2_method_7_code 94 = .ok (.iload_n 2, 1) := by decide +kernel
theorem d3_95 : decode prog_2_method_7_code 95 = .ok (.iaload, 1) := by decide +kernel
theorem d3_96 : decode prog_2_method_7_code 96 = .ok (.aload_n 0, 1) := by decide +kernel
theorem d3_97 : decode prog_2_method_7_code 97 = .ok (.getfield 7, 3) := by decide +kernel
theorem d3_100 : decode prog_2_method_7_code 100 = .ok (.if_icmp .ne 20, 3) := by decide +kernel
theorem d3_103 : decode prog_2_method_7_code 103 = .ok (.aload_n 0, 1) := by decide +kernel
theorem d3_104 : decode prog_2_method_7_code 104 = .ok (.getfield 13, 3) := by decide +kernel
theorem d3_107 : decode prog_2_method_7_code 107 = .ok (.iload_n 2, 1) := by decide +kernel
theorem d3_108 : decode prog_2_method_7_code 108 = .ok (.iload_n 1, 1) := by decide +kernel
theorem d3_109 : decode prog_2_method_7_code 109 = .ok (.iastore, 1) := by decide +kernel
theorem d3_110 : decode prog_2_method_7_code 110 = .ok (.aload_n 0, 1) := by decide +kernel
theorem d3_111 : decode prog_2_method_7_code 111 = .ok (.getfield 20, 3) := by decide +kernel
theorem d3_114 : decode prog_2_method_7_code 114 = .ok (.iload_n 1, 1) := by decide +kernel
theorem d3_115 : decode prog_2_method_7_code 115 = .ok (.iload_n 2, 1) := by decide +kernel
theorem d3_116 : decode prog_2_method_7_code 116 = .ok (.iastore, 1) := by decide +kernel
theorem d3_117 : decode prog_2_method_7_code 117 = .ok (.goto 28, 3) := by decide +kernel
theorem d3_120 : decode prog_2_method_7_code 120 = .ok (.aload_n 0, 1) := by decide +kernel
theorem d3_121 : decode prog_2_method_7_code 121 = .ok (.aload_n 0, 1) := by decide +kernel
theorem d3_122 : decode prog_2_method_7_code 122 = .ok (.getfield 13, 3) := by decide +kernel
theorem d3_125 : decode prog_2_method_7_code 125 = .ok (.iload_n 2, 1) := by decide +kernel
theorem d3_126 : decode prog_2_method_7_code 126 = .ok (.iaload, 1) := by decide +kernel
theorem d3_127 : decode prog_2_method_7_code 127 = .ok (.invokevirtual 36, 3) := by decide +kernel
theorem d3_130 : decode prog_2_method_7_code 130 = .ok (.istore_n 3, 1) := by decide +kernel
theorem d3_131 : decode prog_2_method_7_code 131 = .ok (.aload_n 0, 1) := by decide +kernel
theorem d3_132 : decode prog_2_method_7_code 132 = .ok (.getfield 17, 3) := by decide +kernel
theorem d3_135 : decode prog_2_method_7_code 135 = .ok (.iload_n 3, 1) := by decide +kernel
theorem d3_136 : decode prog_2_method_7_code 136 = .ok (.iload_n 1, 1) := by decide +kernel
theorem d3_137 : decode prog_2_method_7_code 137 = .ok (.iastore, 1) := by decide +kernel
theorem d3_138 : decode prog_2_method_7_code 138 = .ok (.aload_n 0, 1) := by decide +kernel
theorem d3_139 : decode prog_2_method_7_code 139 = .ok (.getfield 20, 3) := by decide +kernel
theorem d3_142 : decode prog_2_method_7_code 142 = .ok (.iload_n 1, 1) := by decide +kernel
theorem d3_143 : decode prog_2_method_7_code 143 = .ok (.iload_n 3, 1) := by decide +kernel
theorem d3_144 : decode prog_2_method_7_code 144 = .ok (.iastore, 1) := by decide +kernel
theorem d3_145 : decode prog_2_method_7_code 145 = .ok (.aload_n 0, 1) := by decide +kernel
theorem d3_146 : decode prog_2_method_7_code 146 = .ok (.iload_n 1, 1) := by decide +kernel
theorem d3_147 : decode prog_2_method_7_code 147 = .ok (.invokevirtual 43, 3) := by decide +kernel
theorem d3_150 : decode prog_2_method_7_code 150 = .ok (.return_, 1) := by decide +kernel
theorem pl_3 : plainFor y_3 = true := plainFor_of_name (by first | (simp [plainName, overriddenIn]; done) | decide +kernel)
theorem pd_3 : parseMethodDescriptor "(II)V" = some ⟨[.int, .int], none⟩ := by decide +kernel
abbrev y_4 : MethodName := ⟨"com/example/rekha/rekha/ActiveEdges", "afterInsertion", "(I)V"⟩
theorem d4_0 : decode prog_2_method_12_code 0 = .ok (.iload_n 1, 1) := by decide +kernel
theorem d4_1 : decode prog_2_method_12_code 1 = .ok (.istore_n 2, 1) := by decide +kernel
theorem d4_2 : decode prog_2_method_12_code 2 = .ok (.aload_n 0, 1) := by decide +kernel
theorem d4_3 : decode prog_2_method_12_code 3 = .ok (.getfield 23, 3) := by decide +kernel
theorem d4_6 : decode prog_2_method_12_code 6 = .ok (.aload_n 0, 1) := by decide +kernel
theorem d4_7 : decode prog_2_method_12_code 7 = .ok (.getfield 20, 3) := by decide +kernel
theorem d4_10 : decode prog_2_method_12_code 10 = .ok (.iload_n 2, 1) := by decide +kernel
theorem d4_11 : decode prog_2_method_12_code 11 = .ok (.iaload, 1) := by decide +kernel
theorem d4_12 : decode prog_2_method_12_code 12 = .ok (.baload, 1) := by decide +kernel
theorem d4_13 : decode prog_2_method_12_code 13 = .ok (.ifCond .eq 173, 3) := by decide +kernel
theorem d4_16 : decode prog_2_method_12_code 16 = .ok (.aload_n 0, 1) := by decide +kernel
theorem d4_17 : decode prog_2_method_12_code 17 = .ok (.getfield 20, 3) := by decide +kernel
theorem d4_20 : decode prog_2_method_12_code 20 = .ok (.iload_n 2, 1) := by decide +kernel
theorem d4_21 : decode prog_2_method_12_code 21 = .ok (.iaload, 1) := by decide +kernel
theorem d4_22 : decode prog_2_method_12_code 22 = .ok (.istore_n 3, 1) := by decide +kernel
theorem d4_23 : decode prog_2_method_12_code 23 = .ok (.aload_n 0, 1) := by decide +kernel
theorem d4_24 : decode prog_2_method_12_code 24 = .ok (.getfield 20, 3) := by decide +kernel
theorem d4_27 : decode prog_2_method_12_code 27 = .ok (.iload_n 3, 1) := by decide +kernel
theorem d4_28 : decode prog_2_method_12_code 28 = .ok (.iaload, 1) := by decide +kernel
theorem d4_29 : decode prog_2_method_12_code 29 = .ok (.istore 4, 2) := by decide +kernel
theorem d4_31 : decode prog_2_method_12_code 31 = .ok (.iload_n 3, 1) := by decide +kernel
theorem d4_32 : decode prog_2_method_12_code 32 = .ok (.aload_n 0, 1) := by decide +kernel
theorem d4_33 : decode prog_2_method_12_code 33 = .ok (.getfield 13, 3) := by decide +kernel
theorem d4_36 : decode prog_2_method_12_code 36 = .ok (.iload 4, 2) := by decide +kernel
theorem d4_38 : decode prog_2_method_12_code 38 = .ok (.iaload, 1) := by decide +kernel
theorem d4_39 : decode prog_2_method_12_code 39 = .ok (.if_icmp .ne 7, 3) := by decide +kernel
theorem d4_42 : decode prog_2_method_12_code 42 = .ok (.iconst 1, 1) := by decide +kernel
theorem d4_43 : decode prog_2_method_12_code 43 = .ok (.goto 4, 3) := by decide +kernel
theorem d4_46 : decode prog_2_method_12_code 46 = .ok (.iconst 0, 1) := by decide +kernel
theorem d4_47 : decode prog_2_method_12_code 47 = .ok (.istore 5, 2) := by decide +kernel
theorem d4_49 : decode prog_2_method_12_code 49 = .ok (.iload 5, 2) := by decide +kernel
theorem d4_51 : decode prog_2_method_12_code 51 = .ok (.ifCond .eq 13, 3) := by decide +kernel
theorem d4_54 : decode prog_2_method_12_code 54 = .ok (.aload_n 0, 1) := by decide +kernel
theorem d4_55 : decode prog_2_method_12_code 55 = .ok (.getfield 17, 3) := by decide +kernel
theorem d4_58 : decode prog_2_method_12_code 58 = .ok (.iload 4, 2) := by decide +kernel
theorem d4_60 : decode prog_2_method_12_code 60 = .ok (.iaload, 1) := by decide +kernel
theorem d4_61 : decode prog_2_method_12_code 61 = .ok (.goto 10, 3) := by decide +kernel
theorem d4_64 : decode prog_2_method_12_code 64 = .ok (.aload_n 0, 1) := by decide +kernel
theorem d4_65 : decode prog_2_method_12_code 65 = .ok (.getfield 13, 3) := by decide +kernel
theorem d4_68 : decode prog_2_method_12_code 68 = .ok (.iload 4, 2) := by decide +kernel
theorem d4_70 : decode prog_2_method_12_code 70 = .ok (.iaload, 1) := by decide +kernel
theorem d4_71 : decode prog_2_method_12_code 71 = .ok (.istore 6, 2) := by decide +kernel
theorem d4_73 : decode prog_2_method_12_code 73 = .ok (.aload_n 0, 1) := by decide +kernel
theorem d4_74 : decode prog_2_method_12_code 74 = .ok (.getfield 23, 3) := by decide +kernel
theorem d4_77 : decode prog_2_method_12_code 77 = .ok (.iload 6, 2) := by decide +kernel
theorem d4_79 : decode prog_2_method_12_code 79 = .ok (.baload, 1) := by decide +kernel
theorem d4_80 : decode prog_2_method_12_code 80 = .ok (.ifCond .eq 32, 3) := by decide +kernel
theorem d4_83 : decode prog_2_method_12_code 83 = .ok (.aload_n 0, 1) := by decide +kernel
theorem d4_84 : decode prog_2_method_12_code 84 = .ok (.getfield 23, 3) := by decide +kernel
theorem d4_87 : decode prog_2_method_12_code 87 = .ok (.iload_n 3, 1) := by decide +kernel
theorem d4_88 : decode prog_2_method_12_code 88 = .ok (.iconst 0, 1) := by decide +kernel
theorem d4_89 : decode prog_2_method_12_code 89 = .ok (.bastore, 1) := by decide +kernel
theorem d4_90 : decode prog_2_method_12_code 90 = .ok (.aload_n 0, 1) := by decide +kernel
theorem d4_91 : decode prog_2_method_12_code 91 = .ok (.getfield 23, 3) := by decide +kernel
theorem d4_94 : decode prog_2_method_12_code 94 = .ok (.iload 6, 2) := by decide +kernel
theorem d4_96 : decode prog_2_method_12_code 96 = .ok (.iconst 0, 1) := by decide +kernel
theorem d4_97 : decode prog_2_method_12_code 97 = .ok (.bastore, 1) := by decide +kernel
theorem d4_98 : decode prog_2_method_12_code 98 = .ok (.aload_n 0, 1) := by decide +kernel
theorem d4_99 : decode prog_2_method_12_code 99 = .ok (.getfield 23, 3) := by decide +kernel
theorem d4_102 : decode prog_2_method_12_code 102 = .ok (.iload 4, 2) := by decide +kernel
theorem d4_104 : decode prog_2_method_12_code 104 = .ok (.iconst 1, 1) := by decide +kernel
theorem d4_105 : decode prog_2_method_12_code 105 = .ok (.bastore, 1) := by decide +kernel
theorem d4_106 : decode prog_2_method_12_code 106 = .ok (.iload 4, 2) := by decide +kernel
theorem d4_108 : decode prog_2_method_12_code 108 = .ok (.istore_n 2, 1) := by decide +kernel
theorem d4_109 : decode prog_2_method_12_code 109 = .ok (.goto 74, 3) := by decide +kernel
theorem d4_112 : decode prog_2_method_12_code 112 = .ok (.iload_n 2, 1) := by decide +kernel
theorem d4_113 : decode prog_2_method_12_code 113 = .ok (.iload 5, 2) := by decide +kernel
theorem d4_115 : decode prog_2_method_12_code 115 = .ok (.ifCond .eq 12, 3) := by decide +kernel
theorem d4_118 : decode prog_2_method_12_code 118 = .ok (.aload_n 0, 1) := by decide +kernel
theorem d4_119 : decode prog_2_method_12_code 119 = .ok (.getfield 17, 3) := by decide +kernel
theorem d4_122 : decode prog_2_method_12_code 122 = .ok (.iload_n 3, 1) := by decide +kernel
theorem d4_123 : decode prog_2_method_12_code 123 = .ok (.iaload, 1) := by decide +kernel
theorem d4_124 : decode prog_2_method_12_code 124 = .ok (.goto 9, 3) := by decide +kernel
theorem d4_127 : decode prog_2_method_12_code 127 = .ok (.aload_n 0, 1) := by decide +kernel
theorem d4_128 : decode prog_2_method_12_code 128 = .ok (.getfield 13, 3) := by decide +kernel
theorem d4_131 : decode prog_2_method_12_code 131 = .ok (.iload_n 3, 1) := by decide +kernel
theorem d4_132 : decode prog_2_method_12_code 132 = .ok (.iaload, 1) := by decide +kernel
theorem d4_133 : decode prog_2_method_12_code 133 = .ok (.if_icmp .ne 19, 3) := by decide +kernel
theorem d4_136 : decode prog_2_method_12_code 136 = .ok (.iload_n 3, 1) := by decide +kernel
theorem d4_137 : decode prog_2_method_12_code 137 = .ok (.istore_n 2, 1) := by decide +kernel
theorem d4_138 : decode prog_2_method_12_code 138 = .ok (.aload_n 0, 1) := by decide +kernel
theorem d4_139 : decode prog_2_method_12_code 139 = .ok (.iload_n 2, 1) := by decide +kernel
theorem d4_140 : decode prog_2_method_12_code 140 = .ok (.iload 5, 2) := by decide +kernel
theorem d4_142 : decode prog_2_method_12_code 142 = .ok (.invokevirtual 54, 3) := by decide +kernel
theorem d4_145 : decode prog_2_method_12_code 145 = .ok (.aload_n 0, 1) := by decide +kernel
theorem d4_146 : decode prog_2_method_12_code 146 = .ok (.getfield 20, 3) := by decide +kernel
theorem d4_149 : decode prog_2_method_12_code 149 = .ok (.iload_n 2, 1) := by decide +kernel
theorem d4_150 : decode prog_2_method_12_code 150 = .ok (.iaload, 1) := by decide +kernel
theorem d4_151 : decode prog_2_method_12_code 151 = .ok (.istore_n 3, 1) := by decide +kernel
theorem d4_152 : decode prog_2_method_12_code 152 = .ok (.aload_n 0, 1) := by decide +kernel
theorem d4_153 : decode prog_2_method_12_code 153 = .ok (.getfield 23, 3) := by decide +kernel
theorem d4_156 : decode prog_2_method_12_code 156 = .ok (.iload_n 3, 1) := by decide +kernel
theorem d4_157 : decode prog_2_method_12_code 157 = .ok (.iconst 0, 1) := by decide +kernel
theorem d4_158 : decode prog_2_method_12_code 158 = .ok (.bastore, 1) := by decide +kernel
theorem d4_159 : decode prog_2_method_12_code 159 = .ok (.aload_n 0, 1) := by decide +kernel
theorem d4_160 : decode prog_2_method_12_code 160 = .ok (.getfield 23, 3) := by decide +kernel
theorem d4_163 : decode prog_2_method_12_code 163 = .ok (.iload 4, 2) := by decide +kernel
theorem d4_165 : decode prog_2_method_12_code 165 = .ok (.iconst 1, 1) := by decide +kernel
theorem d4_166 : decode prog_2_method_12_code 166 = .ok (.bastore, 1) := by decide +kernel
theorem d4_167 : decode prog_2_method_12_code 167 = .ok (.aload_n 0, 1) := by decide +kernel
theorem d4_168 : decode prog_2_method_12_code 168 = .ok (.iload 4, 2) := by decide +kernel
theorem d4_170 : decode prog_2_method_12_code 170 = .ok (.iload 5, 2) := by decide +kernel
theorem d4_172 : decode prog_2_method_12_code 172 = .ok (.ifCond .ne 7, 3) := by decide +kernel
theorem d4_175 : decode prog_2_method_12_code 175 = .ok (.iconst 1, 1) := by decide +kernel
theorem d4_176 : decode prog_2_method_12_code 176 = .ok (.goto 4, 3) := by decide +kernel
theorem d4_179 : decode prog_2_method_12_code 179 = .ok (.iconst 0, 1) := by decide +kernel
theorem d4_180 : decode prog_2_method_12_code 180 = .ok (.invokevirtual 54, 3) := by decide +kernel
theorem d4_183 : decode prog_2_method_12_code 183 = .ok (.goto (-181), 3) := by decide +kernel
theorem d4_186 : decode prog_2_method_12_code 186 = .ok (.aload_n 0, 1) := by decide +kernel
theorem d4_187 : decode prog_2_method_12_code 187 = .ok (.getfield 23, 3) := by decide +kernel
theorem d4_190 : decode prog_2_method_12_code 190 = .ok (.aload_n 0, 1) := by decide +kernel
theorem d4_191 : decode prog_2_method_12_code 191 = .ok (.getfield 27, 3) := by decide +kernel
theorem d4_194 : decode prog_2_method_12_code 194 = .ok (.iconst 0, 1) := by decide +kernel
theorem d4_195 : decode prog_2_method_12_code 195 = .ok (.bastore, 1) := by decide +kernel
theorem d4_196 : decode prog_2_method_12_code 196 = .ok (.return_, 1) := by decide +kernel
theorem pl_4 : plainFor y_4 = true := plainFor_of_name (by first | (simp [plainName, overriddenIn]; done) | decide +kernel)
theorem pd_4 : parseMethodDescriptor "(I)V" = some ⟨[.int], none⟩ := by decide +kernel
abbrev y_5 : MethodName := ⟨"com/example/rekha/rekha/ActiveEdgesNextPinLaw", "put", "([IIII)V"⟩
theorem d5_0 : decode method_3_code 0 = .ok (.iload_n 2, 1) := by decide +kernel
theorem d5_1 : decode method_3_code 1 = .ok (.iconst 3, 1) := by decide +kernel
theorem d5_2 : decode method_3_code 2 = .ok (.if_icmp .ge 14, 3) := by decide +kernel
theorem d5_5 : decode method_3_code 5 = .ok (.iload_n 1, 1) := by decide +kernel
theorem d5_6 : decode method_3_code 6 = .ok (.iconst 3, 1) := by decide +kernel
theorem d5_7 : decode method_3_code 7 = .ok (.if_icmp .lt 9, 3) := by decide +kernel
theorem d5_10 : decode method_3_code 10 = .ok (.aload_n 0, 1) := by decide +kernel
theorem d5_11 : decode method_3_code 11 = .ok (.iconst 3, 1) := by decide +kernel
theorem d5_12 : decode method_3_code 12 = .ok (.aload_n 0, 1) := by decide +kernel
theorem d5_13 : decode method_3_code 13 = .ok (.iconst 2, 1) := by decide +kernel
theorem d5_14 : decode method_3_code 14 = .ok (.iaload, 1) := by decide +kernel
theorem d5_15 : decode method_3_code 15 = .ok (.iastore, 1) := by decide +kernel
theorem d5_16 : decode method_3_code 16 = .ok (.iload_n 2, 1) := by decide +kernel
theorem d5_17 : decode method_3_code 17 = .ok (.iconst 2, 1) := by decide +kernel
theorem d5_18 : decode method_3_code 18 = .ok (.if_icmp .ge 14, 3) := by decide +kernel
theorem d5_21 : decode method_3_code 21 = .ok (.iload_n 1, 1) := by decide +kernel
theorem d5_22 : decode method_3_code 22 = .ok (.iconst 2, 1) := by decide +kernel
theorem d5_23 : decode method_3_code 23 = .ok (.if_icmp .lt 9, 3) := by decide +kernel
theorem d5_26 : decode method_3_code 26 = .ok (.aload_n 0, 1) := by decide +kernel
theorem d5_27 : decode method_3_code 27 = .ok (.iconst 2, 1) := by decide +kernel
theorem d5_28 : decode method_3_code 28 = .ok (.aload_n 0, 1) := by decide +kernel
theorem d5_29 : decode method_3_code 29 = .ok (.iconst 1, 1) := by decide +kernel
theorem d5_30 : decode method_3_code 30 = .ok (.iaload, 1) := by decide +kernel
theorem d5_31 : decode method_3_code 31 = .ok (.iastore, 1) := by decide +kernel
theorem d5_32 : decode method_3_code 32 = .ok (.iload_n 2, 1) := by decide +kernel
theorem d5_33 : decode method_3_code 33 = .ok (.iconst 1, 1) := by decide +kernel
theorem d5_34 : decode method_3_code 34 = .ok (.if_icmp .ge 14, 3) := by decide +kernel
theorem d5_37 : decode method_3_code 37 = .ok (.iload_n 1, 1) := by decide +kernel
theorem d5_38 : decode method_3_code 38 = .ok (.iconst 1, 1) := by decide +kernel
theorem d5_39 : decode method_3_code 39 = .ok (.if_icmp .lt 9, 3) := by decide +kernel
theorem d5_42 : decode method_3_code 42 = .ok (.aload_n 0, 1) := by decide +kernel
theorem d5_43 : decode method_3_code 43 = .ok (.iconst 1, 1) := by decide +kernel
theorem d5_44 : decode method_3_code 44 = .ok (.aload_n 0, 1) := by decide +kernel
theorem d5_45 : decode method_3_code 45 = .ok (.iconst 0, 1) := by decide +kernel
theorem d5_46 : decode method_3_code 46 = .ok (.iaload, 1) := by decide +kernel
theorem d5_47 : decode method_3_code 47 = .ok (.iastore, 1) := by decide +kernel
theorem d5_48 : decode method_3_code 48 = .ok (.aload_n 0, 1) := by decide +kernel
theorem d5_49 : decode method_3_code 49 = .ok (.iload_n 2, 1) := by decide +kernel
theorem d5_50 : decode method_3_code 50 = .ok (.iload_n 3, 1) := by decide +kernel
theorem d5_51 : decode method_3_code 51 = .ok (.iastore, 1) := by decide +kernel
theorem d5_52 : decode method_3_code 52 = .ok (.return_, 1) := by decide +kernel
theorem pl_5 : plainFor y_5 = true := plainFor_of_name (by first | (simp [plainName, overriddenIn]; done) | decide +kernel)
theorem pd_5 : parseMethodDescriptor "([IIII)V" = some ⟨[(.array .int), .int, .int, .int], none⟩ := by decide +kernel
abbrev y_6 : MethodName := ⟨"com/example/rekha/rekha/ActiveEdges", "rotate", "(IZ)V"⟩
theorem d6_0 : decode prog_2_method_14_code 0 = .ok (.iload_n 2, 1) := by decide +kernel
theorem d6_1 : decode prog_2_method_14_code 1 = .ok (.ifCond .eq 12, 3) := by decide +kernel
theorem d6_4 : decode prog_2_method_14_code 4 = .ok (.aload_n 0, 1) := by decide +kernel
theorem d6_5 : decode prog_2_method_14_code 5 = .ok (.getfield 17, 3) := by decide +kernel
theorem d6_8 : decode prog_2_method_14_code 8 = .ok (.iload_n 1, 1) := by decide +kernel
theorem d6_9 : decode prog_2_method_14_code 9 = .ok (.iaload, 1) := by decide +kernel
theorem d6_10 : decode prog_2_method_14_code 10 = .ok (.goto 9, 3) := by decide +kernel
theorem d6_13 : decode prog_2_method_14_code 13 = .ok (.aload_n 0, 1) := by decide +kernel
theorem d6_14 : decode prog_2_method_14_code 14 = .ok (.getfield 13, 3) := by decide +kernel
theorem d6_17 : decode prog_2_method_14_code 17 = .ok (.iload_n 1, 1) := by decide +kernel
theorem d6_18 : decode prog_2_method_14_code 18 = .ok (.iaload, 1) := by decide +kernel
theorem d6_19 : decode prog_2_method_14_code 19 = .ok (.istore_n 3, 1) := by decide +kernel
theorem d6_20 : decode prog_2_method_14_code 20 = .ok (.iload_n 2, 1) := by decide +kernel
theorem d6_21 : decode prog_2_method_14_code 21 = .ok (.ifCond .eq 12, 3) := by decide +kernel
theorem d6_24 : decode prog_2_method_14_code 24 = .ok (.aload_n 0, 1) := by decide +kernel
theorem d6_25 : decode prog_2_method_14_code 25 = .ok (.getfield 13, 3) := by decide +kernel
theorem d6_28 : decode prog_2_method_14_code 28 = .ok (.iload_n 3, 1) := by decide +kernel
theorem d6_29 : decode prog_2_method_14_code 29 = .ok (.iaload, 1) := by decide +kernel
theorem d6_30 : decode prog_2_method_14_code 30 = .ok (.goto 9, 3) := by decide +kernel
theorem d6_33 : decode prog_2_method_14_code 33 = .ok (.aload_n 0, 1) := by decide +kernel
theorem d6_34 : decode prog_2_method_14_code 34 = .ok (.getfield 17, 3) := by decide +kernel
theorem d6_37 : decode prog_2_method_14_code 37 = .ok (.iload_n 3, 1) := by decide +kernel
theorem d6_38 : decode prog_2_method_14_code 38 = .ok (.iaload, 1) := by decide +kernel
theorem d6_39 : decode prog_2_method_14_code 39 = .ok (.istore 4, 2) := by decide +kernel
theorem d6_41 : decode prog_2_method_14_code 41 = .ok (.iload_n 2, 1) := by decide +kernel
theorem d6_42 : decode prog_2_method_14_code 42 = .ok (.ifCond .eq 14, 3) := by decide +kernel
theorem d6_45 : decode prog_2_method_14_code 45 = .ok (.aload_n 0, 1) := by decide +kernel
theorem d6_46 : decode prog_2_method_14_code 46 = .ok (.getfield 17, 3) := by decide +kernel
theorem d6_49 : decode prog_2_method_14_code 49 = .ok (.iload_n 1, 1) := by decide +kernel
theorem d6_50 : decode prog_2_method_14_code 50 = .ok (.iload 4, 2) := by decide +kernel
theorem d6_52 : decode prog_2_method_14_code 52 = .ok (.iastore, 1) := by decide +kernel
theorem d6_53 : decode prog_2_method_14_code 53 = .ok (.goto 11, 3) := by decide +kernel
theorem d6_56 : decode prog_2_method_14_code 56 = .ok (.aload_n 0, 1) := by decide +kernel
theorem d6_57 : decode prog_2_method_14_code 57 = .ok (.getfield 13, 3) := by decide +kernel
theorem d6_60 : decode prog_2_method_14_code 60 = .ok (.iload_n 1, 1) := by decide +kernel
theorem d6_61 : decode prog_2_method_14_code 61 = .ok (.iload 4, 2) := by decide +kernel
theorem d6_63 : decode prog_2_method_14_code 63 = .ok (.iastore, 1) := by decide +kernel
theorem d6_64 : decode prog_2_method_14_code 64 = .ok (.iload 4, 2) := by decide +kernel
theorem d6_66 : decode prog_2_method_14_code 66 = .ok (.aload_n 0, 1) := by decide +kernel
theorem d6_67 : decode prog_2_method_14_code 67 = .ok (.getfield 7, 3) := by decide +kernel
theorem d6_70 : decode prog_2_method_14_code 70 = .ok (.if_icmp .eq 11, 3) := by decide +kernel
theorem d6_73 : decode prog_2_method_14_code 73 = .ok (.aload_n 0, 1) := by decide +kernel
theorem d6_74 : decode prog_2_method_14_code 74 = .ok (.getfield 20, 3) := by decide +kernel
theorem d6_77 : decode prog_2_method_14_code 77 = .ok (.iload 4, 2) := by decide +kernel
theorem d6_79 : decode prog_2_method_14_code 79 = .ok (.iload_n 1, 1) := by decide +kernel
theorem d6_80 : decode prog_2_method_14_code 80 = .ok (.iastore, 1) := by decide +kernel
theorem d6_81 : decode prog_2_method_14_code 81 = .ok (.aload_n 0, 1) := by decide +kernel
theorem d6_82 : decode prog_2_method_14_code 82 = .ok (.iload_n 1, 1) := by decide +kernel
theorem d6_83 : decode prog_2_method_14_code 83 = .ok (.iload_n 3, 1) := by decide +kernel
theorem d6_84 : decode prog_2_method_14_code 84 = .ok (.invokevirtual 47, 3) := by decide +kernel
theorem d6_87 : decode prog_2_method_14_code 87 = .ok (.iload_n 2, 1) := by decide +kernel
theorem d6_88 : decode prog_2_method_14_code 88 = .ok (.ifCond .eq 13, 3) := by decide +kernel
theorem d6_91 : decode prog_2_method_14_code 91 = .ok (.aload_n 0, 1) := by decide +kernel
theorem d6_92 : decode prog_2_method_14_code 92 = .ok (.getfield 13, 3) := by decide +kernel
theorem d6_95 : decode prog_2_method_14_code 95 = .ok (.iload_n 3, 1) := by decide +kernel
theorem d6_96 : decode prog_2_method_14_code 96 = .ok (.iload_n 1, 1) := by decide +kernel
theorem d6_97 : decode prog_2_method_14_code 97 = .ok (.iastore, 1) := by decide +kernel
theorem d6_98 : decode prog_2_method_14_code 98 = .ok (.goto 10, 3) := by decide +kernel
theorem d6_101 : decode prog_2_method_14_code 101 = .ok (.aload_n 0, 1) := by decide +kernel
theorem d6_102 : decode prog_2_method_14_code 102 = .ok (.getfield 17, 3) := by decide +kernel
theorem d6_105 : decode prog_2_method_14_code 105 = .ok (.iload_n 3, 1) := by decide +kernel
theorem d6_106 : decode prog_2_method_14_code 106 = .ok (.iload_n 1, 1) := by decide +kernel
theorem d6_107 : decode prog_2_method_14_code 107 = .ok (.iastore, 1) := by decide +kernel
theorem d6_108 : decode prog_2_method_14_code 108 = .ok (.aload_n 0, 1) := by decide +kernel
theorem d6_109 : decode prog_2_method_14_code 109 = .ok (.getfield 20, 3) := by decide +kernel
theorem d6_112 : decode prog_2_method_14_code 112 = .ok (.iload_n 1, 1) := by decide +kernel
theorem d6_113 : decode prog_2_method_14_code 113 = .ok (.iload_n 3, 1) := by decide +kernel
theorem d6_114 : decode prog_2_method_14_code 114 = .ok (.iastore, 1) := by decide +kernel
theorem d6_115 : decode prog_2_method_14_code 115 = .ok (.return_, 1) := by decide +kernel
theorem pl_6 : plainFor y_6 = true := plainFor_of_name (by first | (simp [plainName, overriddenIn]; done) | decide +kernel)
theorem pd_6 : parseMethodDescriptor "(IZ)V" = some ⟨[.int, .boolean], none⟩ := by decide +kernel
abbrev y_7 : MethodName := ⟨"com/example/rekha/rekha/ActiveEdges", "transplant", "(II)V"⟩
theorem d7_0 : decode prog_2_method_11_code 0 = .ok (.aload_n 0, 1) := by decide +kernel
theorem d7_1 : decode prog_2_method_11_code 1 = .ok (.getfield 20, 3) := by decide +kernel
theorem d7_4 : decode prog_2_method_11_code 4 = .ok (.iload_n 1, 1) := by decide +kernel
theorem d7_5 : decode prog_2_method_11_code 5 = .ok (.iaload, 1) := by decide +kernel
theorem d7_6 : decode prog_2_method_11_code 6 = .ok (.istore_n 3, 1) := by decide +kernel
theorem d7_7 : decode prog_2_method_11_code 7 = .ok (.iload_n 3, 1) := by decide +kernel
theorem d7_8 : decode prog_2_method_11_code 8 = .ok (.aload_n 0, 1) := by decide +kernel
theorem d7_9 : decode prog_2_method_11_code 9 = .ok (.getfield 7, 3) := by decide +kernel
theorem d7_12 : decode prog_2_method_11_code 12 = .ok (.if_icmp .ne 11, 3) := by decide +kernel
theorem d7_15 : decode prog_2_method_11_code 15 = .ok (.aload_n 0, 1) := by decide +kernel
theorem d7_16 : decode prog_2_method_11_code 16 = .ok (.iload_n 2, 1) := by decide +kernel
theorem d7_17 : decode prog_2_method_11_code 17 = .ok (.putfield 27, 3) := by decide +kernel
theorem d7_20 : decode prog_2_method_11_code 20 = .ok (.goto 30, 3) := by decide +kernel
theorem d7_23 : decode prog_2_method_11_code 23 = .ok (.iload_n 1, 1) := by decide +kernel
theorem d7_24 : decode prog_2_method_11_code 24 = .ok (.aload_n 0, 1) := by decide +kernel
theorem d7_25 : decode prog_2_method_11_code 25 = .ok (.getfield 13, 3) := by decide +kernel
theorem d7_28 : decode prog_2_method_11_code 28 = .ok (.iload_n 3, 1) := by decide +kernel
theorem d7_29 : decode prog_2_method_11_code 29 = .ok (.iaload, 1) := by decide +kernel
theorem d7_30 : decode prog_2_method_11_code 30 = .ok (.if_icmp .ne 13, 3) := by decide +kernel
theorem d7_33 : decode prog_2_method_11_code 33 = .ok (.aload_n 0, 1) := by decide +kernel
theorem d7_34 : decode prog_2_method_11_code 34 = .ok (.getfield 13, 3) := by decide +kernel
theorem d7_37 : decode prog_2_method_11_code 37 = .ok (.iload_n 3, 1) := by decide +kernel
theorem d7_38 : decode prog_2_method_11_code 38 = .ok (.iload_n 2, 1) := by decide +kernel
theorem d7_39 : decode prog_2_method_11_code 39 = .ok (.iastore, 1) := by decide +kernel
theorem d7_40 : decode prog_2_method_11_code 40 = .ok (.goto 10, 3) := by decide +kernel
theorem d7_43 : decode prog_2_method_11_code 43 = .ok (.aload_n 0, 1) := by decide +kernel
theorem d7_44 : decode prog_2_method_11_code 44 = .ok (.getfield 17, 3) := by decide +kernel
theorem d7_47 : decode prog_2_method_11_code 47 = .ok (.iload_n 3, 1) := by decide +kernel
theorem d7_48 : decode prog_2_method_11_code 48 = .ok (.iload_n 2, 1) := by decide +kernel
theorem d7_49 : decode prog_2_method_11_code 49 = .ok (.iastore, 1) := by decide +kernel
theorem d7_50 : decode prog_2_method_11_code 50 = .ok (.aload_n 0, 1) := by decide +kernel
theorem d7_51 : decode prog_2_method_11_code 51 = .ok (.getfield 20, 3) := by decide +kernel
theorem d7_54 : decode prog_2_method_11_code 54 = .ok (.iload_n 2, 1) := by decide +kernel
theorem d7_55 : decode prog_2_method_11_code 55 = .ok (.iload_n 3, 1) := by decide +kernel
theorem d7_56 : decode prog_2_method_11_code 56 = .ok (.iastore, 1) := by decide +kernel
theorem d7_57 : decode prog_2_method_11_code 57 = .ok (.return_, 1) := by decide +kernel
theorem pl_7 : plainFor y_7 = true := plainFor_of_name (by first | (simp [plainName, overriddenIn]; done) | decide +kernel)
theorem pd_7 : parseMethodDescriptor "(II)V" = some ⟨[.int, .int], none⟩ := by decide +kernel
abbrev y_8 : MethodName := ⟨"com/example/rekha/rekha/ActiveEdges", "next", "(I)I"⟩
theorem d8_0 : decode prog_2_method_5_code 0 = .ok (.aload_n 0, 1) := by decide +kernel
theorem d8_1 : decode prog_2_method_5_code 1 = .ok (.getfield 17, 3) := by decide +kernel
theorem d8_4 : decode prog_2_method_5_code 4 = .ok (.iload_n 1, 1) := by decide +kernel
theorem d8_5 : decode prog_2_method_5_code 5 = .ok (.iaload, 1) := by decide +kernel
theorem d8_6 : decode prog_2_method_5_code 6 = .ok (.aload_n 0, 1) := by decide +kernel
theorem d8_7 : decode prog_2_method_5_code 7 = .ok (.getfield 7, 3) := by decide +kernel
theorem d8_10 : decode prog_2_method_5_code 10 = .ok (.if_icmp .eq 17, 3) := by decide +kernel
theorem d8_13 : decode prog_2_method_5_code 13 = .ok (.aload_n 0, 1) := by decide +kernel
theorem d8_14 : decode prog_2_method_5_code 14 = .ok (.aload_n 0, 1) := by decide +kernel
theorem d8_15 : decode prog_2_method_5_code 15 = .ok (.getfield 17, 3) := by decide +kernel
theorem d8_18 : decode prog_2_method_5_code 18 = .ok (.iload_n 1, 1) := by decide +kernel
theorem d8_19 : decode prog_2_method_5_code 19 = .ok (.iaload, 1) := by decide +kernel
theorem d8_20 : decode prog_2_method_5_code 20 = .ok (.invokevirtual 40, 3) := by decide +kernel
theorem d8_23 : decode prog_2_method_5_code 23 = .ok (.istore_n 2, 1) := by decide +kernel
theorem d8_24 : decode prog_2_method_5_code 24 = .ok (.goto 42, 3) := by decide +kernel
theorem d8_27 : decode prog_2_method_5_code 27 = .ok (.iload_n 1, 1) := by decide +kernel
theorem d8_28 : decode prog_2_method_5_code 28 = .ok (.istore_n 3, 1) := by decide +kernel
theorem d8_29 : decode prog_2_method_5_code 29 = .ok (.aload_n 0, 1) := by decide +kernel
theorem d8_30 : decode prog_2_method_5_code 30 = .ok (.getfield 20, 3) := by decide +kernel
theorem d8_33 : decode prog_2_method_5_code 33 = .ok (.iload_n 3, 1) := by decide +kernel
theorem d8_34 : decode prog_2_method_5_code 34 = .ok (.iaload, 1) := by decide +kernel
theorem d8_35 : decode prog_2_method_5_code 35 = .ok (.istore_n 2, 1) := by decide +kernel
theorem d8_36 : decode prog_2_method_5_code 36 = .ok (.iload_n 2, 1) := by decide +kernel
theorem d8_37 : decode prog_2_method_5_code 37 = .ok (.aload_n 0, 1) := by decide +kernel
theorem d8_38 : decode prog_2_method_5_code 38 = .ok (.getfield 7, 3) := by decide +kernel
theorem d8_41 : decode prog_2_method_5_code 41 = .ok (.if_icmp .eq 25, 3) := by decide +kernel
theorem d8_44 : decode prog_2_method_5_code 44 = .ok (.iload_n 3, 1) := by decide +kernel
theorem d8_45 : decode prog_2_method_5_code 45 = .ok (.aload_n 0, 1) := by decide +kernel
theorem d8_46 : decode prog_2_method_5_code 46 = .ok (.getfield 17, 3) := by decide +kernel
theorem d8_49 : decode prog_2_method_5_code 49 = .ok (.iload_n 2, 1) := by decide +kernel
theorem d8_50 : decode prog_2_method_5_code 50 = .ok (.iaload, 1) := by decide +kernel
theorem d8_51 : decode prog_2_method_5_code 51 = .ok (.if_icmp .ne 15, 3) := by decide +kernel
theorem d8_54 : decode prog_2_method_5_code 54 = .ok (.iload_n 2, 1) := by decide +kernel
theorem d8_55 : decode prog_2_method_5_code 55 = .ok (.istore_n 3, 1) := by decide +kernel
theorem d8_56 : decode prog_2_method_5_code 56 = .ok (.aload_n 0, 1) := by decide +kernel
theorem d8_57 : decode prog_2_method_5_code 57 = .ok (.getfield 20, 3) := by decide +kernel
theorem d8_60 : decode prog_2_method_5_code 60 = .ok (.iload_n 2, 1) := by decide +kernel
theorem d8_61 : decode prog_2_method_5_code 61 = .ok (.iaload, 1) := by decide +kernel
theorem d8_62 : decode prog_2_method_5_code 62 = .ok (.istore_n 2, 1) := by decide +kernel
theorem d8_63 : decode prog_2_method_5_code 63 = .ok (.goto (-27), 3) := by decide +kernel
theorem d8_66 : decode prog_2_method_5_code 66 = .ok (.iload_n 2, 1) := by decide +kernel
theorem d8_67 : decode prog_2_method_5_code 67 = .ok (.ireturn, 1) := by decide +kernel
theorem pl_8 : plainFor y_8 = true := plainFor_of_name (by first | (simp [plainName, overriddenIn]; done) | decide +kernel)
theorem pd_8 : parseMethodDescriptor "(I)I" = some ⟨[.int], some .int⟩ := by decide +kernel
abbrev y_9 : MethodName := ⟨"com/example/rekha/rekha/ActiveEdges", "leftmost", "(I)I"⟩
theorem d9_0 : decode prog_2_method_9_code 0 = .ok (.iload_n 1, 1) := by decide +kernel
theorem d9_1 : decode prog_2_method_9_code 1 = .ok (.istore_n 2, 1) := by decide +kernel
theorem d9_2 : decode prog_2_method_9_code 2 = .ok (.aload_n 0, 1) := by decide +kernel
theorem d9_3 : decode prog_2_method_9_code 3 = .ok (.getfield 13, 3) := by decide +kernel
theorem d9_6 : decode prog_2_method_9_code 6 = .ok (.iload_n 2, 1) := by decide +kernel
theorem d9_7 : decode prog_2_method_9_code 7 = .ok (.iaload, 1) := by decide +kernel
theorem d9_8 : decode prog_2_method_9_code 8 = .ok (.aload_n 0, 1) := by decide +kernel
theorem d9_9 : decode prog_2_method_9_code 9 = .ok (.getfield 7, 3) := by decide +kernel
theorem d9_12 : decode prog_2_method_9_code 12 = .ok (.if_icmp .eq 13, 3) := by decide +kernel
theorem d9_15 : decode prog_2_method_9_code 15 = .ok (.aload_n 0, 1) := by decide +kernel
theorem d9_16 : decode prog_2_method_9_code 16 = .ok (.getfield 13, 3) := by decide +kernel
theorem d9_19 : decode prog_2_method_9_code 19 = .ok (.iload_n 2, 1) := by decide +kernel
theorem d9_20 : decode prog_2_method_9_code 20 = .ok (.iaload, 1) := by decide +kernel
theorem d9_21 : decode prog_2_method_9_code 21 = .ok (.istore_n 2, 1) := by decide +kernel
theorem d9_22 : decode prog_2_method_9_code 22 = .ok (.goto (-20), 3) := by decide +kernel
theorem d9_25 : decode prog_2_method_9_code 25 = .ok (.iload_n 2, 1) := by decide +kernel
theorem d9_26 : decode prog_2_method_9_code 26 = .ok (.ireturn, 1) := by decide +kernel
theorem pl_9 : plainFor y_9 = true := plainFor_of_name (by first | (simp [plainName, overriddenIn]; done) | decide +kernel)
theorem pd_9 : parseMethodDescriptor "(I)I" = some ⟨[.int], some .int⟩ := by decide +kernel
abbrev y_10 : MethodName := ⟨"com/example/rekha/rekha/ActiveEdges", "rightmost", "(I)I"⟩
theorem d10_0 : decode prog_2_method_10_code 0 = .ok (.iload_n 1, 1) := by decide +kernel
theorem d10_1 : decode prog_2_method_10_code 1 = .ok (.istore_n 2, 1) := by decide +kernel
theorem d10_2 : decode prog_2_method_10_code 2 = .ok (.aload_n 0, 1) := by decide +kernel
theorem d10_3 : decode prog_2_method_10_code 3 = .ok (.getfield 17, 3) := by decide +kernel
theorem d10_6 : decode prog_2_method_10_code 6 = .ok (.iload_n 2, 1) := by decide +kernel
theorem d10_7 : decode prog_2_method_10_code 7 = .ok (.iaload, 1) := by decide +kernel
theorem d10_8 : decode prog_2_method_10_code 8 = .ok (.aload_n 0, 1) := by decide +kernel
theorem d10_9 : decode prog_2_method_10_code 9 = .ok (.getfield 7, 3) := by decide +kernel
theorem d10_12 : decode prog_2_method_10_code 12 = .ok (.if_icmp .eq 13, 3) := by decide +kernel
theorem d10_15 : decode prog_2_method_10_code 15 = .ok (.aload_n 0, 1) := by decide +kernel
theorem d10_16 : decode prog_2_method_10_code 16 = .ok (.getfield 17, 3) := by decide +kernel
theorem d10_19 : decode prog_2_method_10_code 19 = .ok (.iload_n 2, 1) := by decide +kernel
theorem d10_20 : decode prog_2_method_10_code 20 = .ok (.iaload, 1) := by decide +kernel
theorem d10_21 : decode prog_2_method_10_code 21 = .ok (.istore_n 2, 1) := by decide +kernel
theorem d10_22 : decode prog_2_method_10_code 22 = .ok (.goto (-20), 3) := by decide +kernel
theorem d10_25 : decode prog_2_method_10_code 25 = .ok (.iload_n 2, 1) := by decide +kernel
theorem d10_26 : decode prog_2_method_10_code 26 = .ok (.ireturn, 1) := by decide +kernel
theorem pl_10 : plainFor y_10 = true := plainFor_of_name (by first | (simp [plainName, overriddenIn]; done) | decide +kernel)
theorem pd_10 : parseMethodDescriptor "(I)I" = some ⟨[.int], some .int⟩ := by decide +kernel
def LQ : Option Value → Hp → Prop := fun v _ => v = some (.int 1)
theorem own_bnd {α β : Type} {x : Option α} {f : α → Option β} {o : β} (h : x.bind f = some o) : ∃ a, x = some a ∧ f a = some o := by
  cases x with
  | none => cases h
  | some a => exact ⟨a, rfl, h⟩
theorem own_ifp {α : Type} {P : Prop} [Decidable P] {a b : Option α} {o : α} (c : P) (h : (if P then a else b) = some o) : a = some o := by rw [if_pos c] at h; exact h
theorem own_ifn {α : Type} {P : Prop} [Decidable P] {a b : Option α} {o : α} (c : ¬ P) (h : (if P then a else b) = some o) : b = some o := by rw [if_neg c] at h; exact h
def gt (xs : List Int32) (i : Int32) : Option Int32 := if i < 0 then none else xs[i.toNatClampNeg]?
def pt (xs : List Int32) (i v : Int32) : Option (List Int32) := if i < 0 then none else if i.toNatClampNeg < xs.length then some (xs.set i.toNatClampNeg v) else none
theorem gt_ok {xs : List Int32} {i a : Int32} (h : gt xs i = some a) : ¬ i < 0 ∧ xs[i.toNatClampNeg]? = some a := by
  unfold gt at h
  by_cases c : i < 0
  · rw [if_pos c] at h; cases h
  · rw [if_neg c] at h; exact ⟨c, h⟩
theorem pt_ok {xs ys : List Int32} {i v : Int32} (h : pt xs i v = some ys) : ¬ i < 0 ∧ i.toNatClampNeg < xs.length ∧ xs.set i.toNatClampNeg v = ys := by
  unfold pt at h
  by_cases c : i < 0
  · rw [if_pos c] at h; cases h
  · rw [if_neg c] at h
    by_cases e : i.toNatClampNeg < xs.length
    · rw [if_pos e] at h; exact ⟨c, e, Option.some.inj h⟩
    · rw [if_neg e] at h; cases h
abbrev Tr : Type := List Int32 × List Int32 × List Int32 × List Int32 × Int32
abbrev Tr.mk (l r p d : List Int32) (root : Int32) : Tr := (l, r, p, d, root)
abbrev Tr.l (t : Tr) : List Int32 := t.1
abbrev Tr.r (t : Tr) : List Int32 := t.2.1
abbrev Tr.p (t : Tr) : List Int32 := t.2.2.1
abbrev Tr.d (t : Tr) : List Int32 := t.2.2.2.1
abbrev Tr.root (t : Tr) : Int32 := t.2.2.2.2
abbrev Tq : Type := Tr × List Int32
abbrev Tq.mk (t : Tr) (q : List Int32) : Tq := (t, q)
abbrev Tq.t (o : Tq) : Tr := o.1
abbrev Tq.q (o : Tq) : List Int32 := o.2
def m_rml (nl : Int32) : Nat → List Int32 → List Int32 → List Int32 → List Int32 → Int32 → Int32 → Option Int32
  | 0, _, _, _, _, _, _ => none
  | f + 1, l, r, p, d, root, cur => (gt r cur).bind fun a1 => (if a1 = nl then ((some cur)) else ((gt r cur).bind fun a2 => (m_rml nl f l r p d root a2)))
set_option maxRecDepth 65536 in
set_option maxHeartbeats 40000000 in
theorem lp_rml {Z : State} {k : Cx} {F : Hp} {nl : Int32} {ta la ra pa da : Addr} {o : Int32} (f : Nat) (l r p d : List Int32) (root cur : Int32) (s1 : Slot) (H : Ok Z k ({ frames := 0, cells := 0, slots := 0, locals := 0 } : Room) (fun v M' => v = some (.int o) ∧ M' = ((da, ArI Z .boolean d) :: (pa, ArI Z .int p) :: (ra, ArI Z .int r) :: (la, ArI Z .int l) :: (ta, Obj Z "com/example/rekha/rekha/ActiveEdges" [("com/example/rekha/rekha/ActiveEdges", "nil", "I", (.int nl)), ("com/example/rekha/rekha/ActiveEdges", "left", "[I", (.ref la)), ("com/example/rekha/rekha/ActiveEdges", "right", "[I", (.ref ra)), ("com/example/rekha/rekha/ActiveEdges", "parent", "[I", (.ref pa)), ("com/example/rekha/rekha/ActiveEdges", "red", "[Z", (.ref da)), ("com/example/rekha/rekha/ActiveEdges", "root", "I", (.int root))]) :: F)) y_10 prog_2_method_10_code 3 (some .int)) (hm : m_rml nl f l r p d root cur = some o) : Go Z k 0 0 ((da, ArI Z .boolean d) :: (pa, ArI Z .int p) :: (ra, ArI Z .int r) :: (la, ArI Z .int l) :: (ta, Obj Z "com/example/rekha/rekha/ActiveEdges" [("com/example/rekha/rekha/ActiveEdges", "nil", "I", (.int nl)), ("com/example/rekha/rekha/ActiveEdges", "left", "[I", (.ref la)), ("com/example/rekha/rekha/ActiveEdges", "right", "[I", (.ref ra)), ("com/example/rekha/rekha/ActiveEdges", "parent", "[I", (.ref pa)), ("com/example/rekha/rekha/ActiveEdges", "red", "[Z", (.ref da)), ("com/example/rekha/rekha/ActiveEdges", "root", "I", (.int root))]) :: F) 2 #[.val (.ref ta), s1, .val (.int cur)] [] := by
  induction f generalizing cur s1 with
  | zero => rw [m_rml] at hm; cases hm
  | succ f ih =>
    rw [m_rml] at hm
    refine s_aloadn H d10_2 rfl rfl (pc' := 3) rfl ?_
    refine s_getf H d10_3 (mem (i := 15) rfl) (i := 4) (j := 2) rfl rfl (pc' := 6) rfl ?_
    refine s_iloadn H d10_6 rfl (pc' := 7) rfl ?_
    obtain ⟨a1, e_a1, hm⟩ := own_bnd hm
    refine s_iaload H d10_7 (i := 2) rfl (x := a1) (gt_ok e_a1).1 (jn := (cur).toNatClampNeg) rfl (gt_ok e_a1).2 (pc' := 8) rfl ?_
    refine s_aloadn H d10_8 rfl rfl (pc' := 9) rfl ?_
    refine s_getf H d10_9 (mem (i := 11) rfl) (i := 4) (j := 0) rfl rfl (pc' := 12) rfl ?_
    refine s_icmp H d10_12 (py := 25) (pc' := 15) q_eq (by decide) rfl (fun c12 => ?_) (fun c12 => ?_)
    · replace hm := own_ifp c12 hm
      refine s_iloadn H d10_25 rfl (pc' := 26) rfl ?_
      refine s_iret H d10_26 rfl (Or.inl rfl) (by decide) (by decide) ?_
      obtain rfl := Option.some.inj hm
      exact ⟨rfl, rfl⟩
    · replace hm := own_ifn c12 hm
      refine s_aloadn H d10_15 rfl rfl (pc' := 16) rfl ?_
      refine s_getf H d10_16 (mem (i := 15) rfl) (i := 4) (j := 2) rfl rfl (pc' := 19) rfl ?_
      refine s_iloadn H d10_19 rfl (pc' := 20) rfl ?_
      obtain ⟨a2, e_a2, hm⟩ := own_bnd hm
      refine s_iaload H d10_20 (i := 2) rfl (x := a2) (gt_ok e_a2).1 (jn := (cur).toNatClampNeg) rfl (gt_ok e_a2).2 (pc' := 21) rfl ?_
      refine s_istoren H d10_21 (L' := fun z => #[.val (.ref ta), s1, .val (.int z)]) (fun _ => rfl) (pc' := 22) rfl (fun z0 hz => ?_)
      subst z0
      refine s_goto H d10_22 (pc' := 2) (by decide) ?_
      exact ih _ _ hm
def m_rm (nl : Int32) (l r p d : List Int32) (root : Int32) (n0 : Int32) : Option Int32 := (m_rml nl 8 l r p d root n0)
set_option maxRecDepth 65536 in
set_option maxHeartbeats 40000000 in
theorem met_rm {Z : State} (HT : Tb Z) {F : Hp} {nl root : Int32} {l r p d : List Int32} (ta la ra pa da : Addr) (n0 : Int32) {o : Int32} (hm : m_rm nl l r p d root n0 = some o) : Met Z y_10 prog_2_method_10_code 3 (some .int) ({ frames := 0, cells := 0, slots := 0, locals := 0 } : Room) [(.ref ta), (.int n0)] ((da, ArI Z .boolean d) :: (pa, ArI Z .int p) :: (ra, ArI Z .int r) :: (la, ArI Z .int l) :: (ta, Obj Z "com/example/rekha/rekha/ActiveEdges" [("com/example/rekha/rekha/ActiveEdges", "nil", "I", (.int nl)), ("com/example/rekha/rekha/ActiveEdges", "left", "[I", (.ref la)), ("com/example/rekha/rekha/ActiveEdges", "right", "[I", (.ref ra)), ("com/example/rekha/rekha/ActiveEdges", "parent", "[I", (.ref pa)), ("com/example/rekha/rekha/ActiveEdges", "red", "[Z", (.ref da)), ("com/example/rekha/rekha/ActiveEdges", "root", "I", (.int root))]) :: F) (fun v M' => v = some (.int o) ∧ M' = ((da, ArI Z .boolean d) :: (pa, ArI Z .int p) :: (ra, ArI Z .int r) :: (la, ArI Z .int l) :: (ta, Obj Z "com/example/rekha/rekha/ActiveEdges" [("com/example/rekha/rekha/ActiveEdges", "nil", "I", (.int nl)), ("com/example/rekha/rekha/ActiveEdges", "left", "[I", (.ref la)), ("com/example/rekha/rekha/ActiveEdges", "right", "[I", (.ref ra)), ("com/example/rekha/rekha/ActiveEdges", "parent", "[I", (.ref pa)), ("com/example/rekha/rekha/ActiveEdges", "red", "[Z", (.ref da)), ("com/example/rekha/rekha/ActiveEdges", "root", "I", (.int root))]) :: F)) := by
  refine Met.of HT pl_10 (Ls := #[.val (.ref ta), .val (.int n0), .unset]) (fun m => by first | (simp [entryFrame, mkF, argsToLocals, Value.category]; done) | rfl) (fun k H => ?_)
  unfold m_rm at hm
  refine s_iloadn H d10_0 rfl (pc' := 1) rfl ?_
  refine s_istoren H d10_1 (L' := fun z => #[.val (.ref ta), .val (.int n0), .val (.int z)]) (fun _ => rfl) (pc' := 2) rfl (fun z0 hz => ?_)
  subst z0
  exact lp_rml _ _ _ _ _ _ _ _ H hm
def m_lml (nl : Int32) : Nat → List Int32 → List Int32 → List Int32 → List Int32 → Int32 → Int32 → Option Int32
  | 0, _, _, _, _, _, _ => none
  | f + 1, l, r, p, d, root, cur => (gt l cur).bind fun a1 => (if a1 = nl then ((some cur)) else ((gt l cur).bind fun a2 => (m_lml nl f l r p d root a2)))
set_option maxRecDepth 65536 in
set_option maxHeartbeats 40000000 in
theorem lp_lml {Z : State} {k : Cx} {F : Hp} {nl : Int32} {ta la ra pa da : Addr} {o : Int32} (f : Nat) (l r p d : List Int32) (root cur : Int32) (s1 : Slot) (H : Ok Z k ({ frames := 0, cells := 0, slots := 0, locals := 0 } : Room) (fun v M' => v = some (.int o) ∧ M' = ((da, ArI Z .boolean d) :: (pa, ArI Z .int p) :: (ra, ArI Z .int r) :: (la, ArI Z .int l) :: (ta, Obj Z "com/example/rekha/rekha/ActiveEdges" [("com/example/rekha/rekha/ActiveEdges", "nil", "I", (.int nl)), ("com/example/rekha/rekha/ActiveEdges", "left", "[I", (.ref la)), ("com/example/rekha/rekha/ActiveEdges", "right", "[I", (.ref ra)), ("com/example/rekha/rekha/ActiveEdges", "parent", "[I", (.ref pa)), ("com/example/rekha/rekha/ActiveEdges", "red", "[Z", (.ref da)), ("com/example/rekha/rekha/ActiveEdges", "root", "I", (.int root))]) :: F)) y_9 prog_2_method_9_code 3 (some .int)) (hm : m_lml nl f l r p d root cur = some o) : Go Z k 0 0 ((da, ArI Z .boolean d) :: (pa, ArI Z .int p) :: (ra, ArI Z .int r) :: (la, ArI Z .int l) :: (ta, Obj Z "com/example/rekha/rekha/ActiveEdges" [("com/example/rekha/rekha/ActiveEdges", "nil", "I", (.int nl)), ("com/example/rekha/rekha/ActiveEdges", "left", "[I", (.ref la)), ("com/example/rekha/rekha/ActiveEdges", "right", "[I", (.ref ra)), ("com/example/rekha/rekha/ActiveEdges", "parent", "[I", (.ref pa)), ("com/example/rekha/rekha/ActiveEdges", "red", "[Z", (.ref da)), ("com/example/rekha/rekha/ActiveEdges", "root", "I", (.int root))]) :: F) 2 #[.val (.ref ta), s1, .val (.int cur)] [] := by
  induction f generalizing cur s1 with
  | zero => rw [m_lml] at hm; cases hm
  | succ f ih =>
    rw [m_lml] at hm
    refine s_aloadn H d9_2 rfl rfl (pc' := 3) rfl ?_
    refine s_getf H d9_3 (mem (i := 13) rfl) (i := 4) (j := 1) rfl rfl (pc' := 6) rfl ?_
    refine s_iloadn H d9_6 rfl (pc' := 7) rfl ?_
    obtain ⟨a1, e_a1, hm⟩ := own_bnd hm
    refine s_iaload H d9_7 (i := 3) rfl (x := a1) (gt_ok e_a1).1 (jn := (cur).toNatClampNeg) rfl (gt_ok e_a1).2 (pc' := 8) rfl ?_
    refine s_aloadn H d9_8 rfl rfl (pc' := 9) rfl ?_
    refine s_getf H d9_9 (mem (i := 11) rfl) (i := 4) (j := 0) rfl rfl (pc' := 12) rfl ?_
    refine s_icmp H d9_12 (py := 25) (pc' := 15) q_eq (by decide) rfl (fun c12 => ?_) (fun c12 => ?_)
    · replace hm := own_ifp c12 hm
      refine s_iloadn H d9_25 rfl (pc' := 26) rfl ?_
      refine s_iret H d9_26 rfl (Or.inl rfl) (by decide) (by decide) ?_
      obtain rfl := Option.some.inj hm
      exact ⟨rfl, rfl⟩
    · replace hm := own_ifn c12 hm
      refine s_aloadn H d9_15 rfl rfl (pc' := 16) rfl ?_
      refine s_getf H d9_16 (mem (i := 13) rfl) (i := 4) (j := 1) rfl rfl (pc' := 19) rfl ?_
      refine s_iloadn H d9_19 rfl (pc' := 20) rfl ?_
      obtain ⟨a2, e_a2, hm⟩ := own_bnd hm
      refine s_iaload H d9_20 (i := 3) rfl (x := a2) (gt_ok e_a2).1 (jn := (cur).toNatClampNeg) rfl (gt_ok e_a2).2 (pc' := 21) rfl ?_
      refine s_istoren H d9_21 (L' := fun z => #[.val (.ref ta), s1, .val (.int z)]) (fun _ => rfl) (pc' := 22) rfl (fun z0 hz => ?_)
      subst z0
      refine s_goto H d9_22 (pc' := 2) (by decide) ?_
      exact ih _ _ hm
def m_lm (nl : Int32) (l r p d : List Int32) (root : Int32) (n0 : Int32) : Option Int32 := (m_lml nl 8 l r p d root n0)
set_option maxRecDepth 65536 in
set_option maxHeartbeats 40000000 in
theorem met_lm {Z : State} (HT : Tb Z) {F : Hp} {nl root : Int32} {l r p d : List Int32} (ta la ra pa da : Addr) (n0 : Int32) {o : Int32} (hm : m_lm nl l r p d root n0 = some o) : Met Z y_9 prog_2_method_9_code 3 (some .int) ({ frames := 0, cells := 0, slots := 0, locals := 0 } : Room) [(.ref ta), (.int n0)] ((da, ArI Z .boolean d) :: (pa, ArI Z .int p) :: (ra, ArI Z .int r) :: (la, ArI Z .int l) :: (ta, Obj Z "com/example/rekha/rekha/ActiveEdges" [("com/example/rekha/rekha/ActiveEdges", "nil", "I", (.int nl)), ("com/example/rekha/rekha/ActiveEdges", "left", "[I", (.ref la)), ("com/example/rekha/rekha/ActiveEdges", "right", "[I", (.ref ra)), ("com/example/rekha/rekha/ActiveEdges", "parent", "[I", (.ref pa)), ("com/example/rekha/rekha/ActiveEdges", "red", "[Z", (.ref da)), ("com/example/rekha/rekha/ActiveEdges", "root", "I", (.int root))]) :: F) (fun v M' => v = some (.int o) ∧ M' = ((da, ArI Z .boolean d) :: (pa, ArI Z .int p) :: (ra, ArI Z .int r) :: (la, ArI Z .int l) :: (ta, Obj Z "com/example/rekha/rekha/ActiveEdges" [("com/example/rekha/rekha/ActiveEdges", "nil", "I", (.int nl)), ("com/example/rekha/rekha/ActiveEdges", "left", "[I", (.ref la)), ("com/example/rekha/rekha/ActiveEdges", "right", "[I", (.ref ra)), ("com/example/rekha/rekha/ActiveEdges", "parent", "[I", (.ref pa)), ("com/example/rekha/rekha/ActiveEdges", "red", "[Z", (.ref da)), ("com/example/rekha/rekha/ActiveEdges", "root", "I", (.int root))]) :: F)) := by
  refine Met.of HT pl_9 (Ls := #[.val (.ref ta), .val (.int n0), .unset]) (fun m => by first | (simp [entryFrame, mkF, argsToLocals, Value.category]; done) | rfl) (fun k H => ?_)
  unfold m_lm at hm
  refine s_iloadn H d9_0 rfl (pc' := 1) rfl ?_
  refine s_istoren H d9_1 (L' := fun z => #[.val (.ref ta), .val (.int n0), .val (.int z)]) (fun _ => rfl) (pc' := 2) rfl (fun z0 hz => ?_)
  subst z0
  exact lp_lml _ _ _ _ _ _ _ _ H hm
def m_tr (nl : Int32) (l r p d : List Int32) (root : Int32) (old rep : Int32) : Option Tr := (gt p old).bind fun a1 => (if ¬ a1 = nl then ((gt l a1).bind fun a2 => (if ¬ old = a2 then ((pt r a1 rep).bind fun l3 => (pt p rep a1).bind fun l4 => (some (Tr.mk l l3 l4 d root))) else ((pt l a1 rep).bind fun l5 => (pt p rep a1).bind fun l6 => (some (Tr.mk l5 r l6 d root))))) else ((pt p rep a1).bind fun l7 => (some (Tr.mk l r l7 d rep))))
set_option maxRecDepth 65536 in
set_option maxHeartbeats 40000000 in
theorem met_tr {Z : State} (HT : Tb Z) {F : Hp} {nl root : Int32} {l r p d : List Int32} (ta la ra pa da : Addr) (old rep : Int32) {o : Tr} (hm : m_tr nl l r p d root old rep = some o) : Met Z y_7 prog_2_method_11_code 4 none ({ frames := 0, cells := 0, slots := 0, locals := 0 } : Room) [(.ref ta), (.int old), (.int rep)] ((da, ArI Z .boolean d) :: (pa, ArI Z .int p) :: (ra, ArI Z .int r) :: (la, ArI Z .int l) :: (ta, Obj Z "com/example/rekha/rekha/ActiveEdges" [("com/example/rekha/rekha/ActiveEdges", "nil", "I", (.int nl)), ("com/example/rekha/rekha/ActiveEdges", "left", "[I", (.ref la)), ("com/example/rekha/rekha/ActiveEdges", "right", "[I", (.ref ra)), ("com/example/rekha/rekha/ActiveEdges", "parent", "[I", (.ref pa)), ("com/example/rekha/rekha/ActiveEdges", "red", "[Z", (.ref da)), ("com/example/rekha/rekha/ActiveEdges", "root", "I", (.int root))]) :: F) (fun v M' => v = none ∧ M' = ((da, ArI Z .boolean o.d) :: (pa, ArI Z .int o.p) :: (ra, ArI Z .int o.r) :: (la, ArI Z .int o.l) :: (ta, Obj Z "com/example/rekha/rekha/ActiveEdges" [("com/example/rekha/rekha/ActiveEdges", "nil", "I", (.int nl)), ("com/example/rekha/rekha/ActiveEdges", "left", "[I", (.ref la)), ("com/example/rekha/rekha/ActiveEdges", "right", "[I", (.ref ra)), ("com/example/rekha/rekha/ActiveEdges", "parent", "[I", (.ref pa)), ("com/example/rekha/rekha/ActiveEdges", "red", "[Z", (.ref da)), ("com/example/rekha/rekha/ActiveEdges", "root", "I", (.int o.root))]) :: F)) := by
  refine Met.of HT pl_7 (Ls := #[.val (.ref ta), .val (.int old), .val (.int rep), .unset]) (fun m => by first | (simp [entryFrame, mkF, argsToLocals, Value.category]; done) | rfl) (fun k H => ?_)
  unfold m_tr at hm
  refine s_aloadn H d7_0 rfl rfl (pc' := 1) rfl ?_
  refine s_getf H d7_1 (mem (i := 17) rfl) (i := 4) (j := 3) rfl rfl (pc' := 4) rfl ?_
  refine s_iloadn H d7_4 rfl (pc' := 5) rfl ?_
  obtain ⟨a1, e_a1, hm⟩ := own_bnd hm
  refine s_iaload H d7_5 (i := 1) rfl (x := a1) (gt_ok e_a1).1 (jn := (old).toNatClampNeg) rfl (gt_ok e_a1).2 (pc' := 6) rfl ?_
  refine s_istoren H d7_6 (L' := fun z => #[.val (.ref ta), .val (.int old), .val (.int rep), .val (.int z)]) (fun _ => rfl) (pc' := 7) rfl (fun z0 hz => ?_)
  subst z0
  refine s_iloadn H d7_7 rfl (pc' := 8) rfl ?_
  refine s_aloadn H d7_8 rfl rfl (pc' := 9) rfl ?_
  refine s_getf H d7_9 (mem (i := 11) rfl) (i := 4) (j := 0) rfl rfl (pc' := 12) rfl ?_
  refine s_icmp H d7_12 (py := 23) (pc' := 15) q_ne (by decide) rfl (fun c12 => ?_) (fun c12 => ?_)
  · replace hm := own_ifp c12 hm
    refine s_iloadn H d7_23 rfl (pc' := 24) rfl ?_
    refine s_aloadn H d7_24 rfl rfl (pc' := 25) rfl ?_
    refine s_getf H d7_25 (mem (i := 13) rfl) (i := 4) (j := 1) rfl rfl (pc' := 28) rfl ?_
    refine s_iloadn H d7_28 rfl (pc' := 29) rfl ?_
    obtain ⟨a2, e_a2, hm⟩ := own_bnd hm
    refine s_iaload H d7_29 (i := 3) rfl (x := a2) (gt_ok e_a2).1 (jn := (a1).toNatClampNeg) rfl (gt_ok e_a2).2 (pc' := 30) rfl ?_
    refine s_icmp H d7_30 (py := 43) (pc' := 33) q_ne (by decide) rfl (fun c30 => ?_) (fun c30 => ?_)
    · replace hm := own_ifp c30 hm
      refine s_aloadn H d7_43 rfl rfl (pc' := 44) rfl ?_
      refine s_getf H d7_44 (mem (i := 15) rfl) (i := 4) (j := 2) rfl rfl (pc' := 47) rfl ?_
      refine s_iloadn H d7_47 rfl (pc' := 48) rfl ?_
      refine s_iloadn H d7_48 rfl (pc' := 49) rfl ?_
      obtain ⟨l3, e_l3, hm⟩ := own_bnd hm
      refine s_iastore H d7_49 (i := 2) rfl (pt_ok e_l3).1 (jn := (a1).toNatClampNeg) rfl (pt_ok e_l3).2.1 (pc' := 50) rfl ?_
      rw [(pt_ok e_l3).2.2]
      show Go Z k 0 0 ((da, ArI Z .boolean d) :: (pa, ArI Z .int p) :: (ra, ArI Z .int l3) :: (la, ArI Z .int l) :: (ta, Obj Z "com/example/rekha/rekha/ActiveEdges" [("com/example/rekha/rekha/ActiveEdges", "nil", "I", (.int nl)), ("com/example/rekha/rekha/ActiveEdges", "left", "[I", (.ref la)), ("com/example/rekha/rekha/ActiveEdges", "right", "[I", (.ref ra)), ("com/example/rekha/rekha/ActiveEdges", "parent", "[I", (.ref pa)), ("com/example/rekha/rekha/ActiveEdges", "red", "[Z", (.ref da)), ("com/example/rekha/rekha/ActiveEdges", "root", "I", (.int root))]) :: F) 50 #[.val (.ref ta), .val (.int old), .val (.int rep), .val (.int a1)] []
      refine s_aloadn H d7_50 rfl rfl (pc' := 51) rfl ?_
      refine s_getf H d7_51 (mem (i := 17) rfl) (i := 4) (j := 3) rfl rfl (pc' := 54) rfl ?_
      refine s_iloadn H d7_54 rfl (pc' := 55) rfl ?_
      refine s_iloadn H d7_55 rfl (pc' := 56) rfl ?_
      obtain ⟨l4, e_l4, hm⟩ := own_bnd hm
      refine s_iastore H d7_56 (i := 1) rfl (pt_ok e_l4).1 (jn := (rep).toNatClampNeg) rfl (pt_ok e_l4).2.1 (pc' := 57) rfl ?_
      rw [(pt_ok e_l4).2.2]
      show Go Z k 0 0 ((da, ArI Z .boolean d) :: (pa, ArI Z .int l4) :: (ra, ArI Z .int l3) :: (la, ArI Z .int l) :: (ta, Obj Z "com/example/rekha/rekha/ActiveEdges" [("com/example/rekha/rekha/ActiveEdges", "nil", "I", (.int nl)), ("com/example/rekha/rekha/ActiveEdges", "left", "[I", (.ref la)), ("com/example/rekha/rekha/ActiveEdges", "right", "[I", (.ref ra)), ("com/example/rekha/rekha/ActiveEdges", "parent", "[I", (.ref pa)), ("com/example/rekha/rekha/ActiveEdges", "red", "[Z", (.ref da)), ("com/example/rekha/rekha/ActiveEdges", "root", "I", (.int root))]) :: F) 57 #[.val (.ref ta), .val (.int old), .val (.int rep), .val (.int a1)] []
      refine s_vret H d7_57 (by decide) (by decide) ?_
      obtain rfl := Option.some.inj hm
      exact ⟨rfl, rfl⟩
    · replace hm := own_ifn c30 hm
      refine s_aloadn H d7_33 rfl rfl (pc' := 34) rfl ?_
      refine s_getf H d7_34 (mem (i := 13) rfl) (i := 4) (j := 1) rfl rfl (pc' := 37) rfl ?_
      refine s_iloadn H d7_37 rfl (pc' := 38) rfl ?_
      refine s_iloadn H d7_38 rfl (pc' := 39) rfl ?_
      obtain ⟨l5, e_l5, hm⟩ := own_bnd hm
      refine s_iastore H d7_39 (i := 3) rfl (pt_ok e_l5).1 (jn := (a1).toNatClampNeg) rfl (pt_ok e_l5).2.1 (pc' := 40) rfl ?_
      rw [(pt_ok e_l5).2.2]
      show Go Z k 0 0 ((da, ArI Z .boolean d) :: (pa, ArI Z .int p) :: (ra, ArI Z .int r) :: (la, ArI Z .int l5) :: (ta, Obj Z "com/example/rekha/rekha/ActiveEdges" [("com/example/rekha/rekha/ActiveEdges", "nil", "I", (.int nl)), ("com/example/rekha/rekha/ActiveEdges", "left", "[I", (.ref la)), ("com/example/rekha/rekha/ActiveEdges", "right", "[I", (.ref ra)), ("com/example/rekha/rekha/ActiveEdges", "parent", "[I", (.ref pa)), ("com/example/rekha/rekha/ActiveEdges", "red", "[Z", (.ref da)), ("com/example/rekha/rekha/ActiveEdges", "root", "I", (.int root))]) :: F) 40 #[.val (.ref ta), .val (.int old), .val (.int rep), .val (.int a1)] []
      refine s_goto H d7_40 (pc' := 50) (by decide) ?_
      refine s_aloadn H d7_50 rfl rfl (pc' := 51) rfl ?_
      refine s_getf H d7_51 (mem (i := 17) rfl) (i := 4) (j := 3) rfl rfl (pc' := 54) rfl ?_
      refine s_iloadn H d7_54 rfl (pc' := 55) rfl ?_
      refine s_iloadn H d7_55 rfl (pc' := 56) rfl ?_
      obtain ⟨l6, e_l6, hm⟩ := own_bnd hm
      refine s_iastore H d7_56 (i := 1) rfl (pt_ok e_l6).1 (jn := (rep).toNatClampNeg) rfl (pt_ok e_l6).2.1 (pc' := 57) rfl ?_
      rw [(pt_ok e_l6).2.2]
      show Go Z k 0 0 ((da, ArI Z .boolean d) :: (pa, ArI Z .int l6) :: (ra, ArI Z .int r) :: (la, ArI Z .int l5) :: (ta, Obj Z "com/example/rekha/rekha/ActiveEdges" [("com/example/rekha/rekha/ActiveEdges", "nil", "I", (.int nl)), ("com/example/rekha/rekha/ActiveEdges", "left", "[I", (.ref la)), ("com/example/rekha/rekha/ActiveEdges", "right", "[I", (.ref ra)), ("com/example/rekha/rekha/ActiveEdges", "parent", "[I", (.ref pa)), ("com/example/rekha/rekha/ActiveEdges", "red", "[Z", (.ref da)), ("com/example/rekha/rekha/ActiveEdges", "root", "I", (.int root))]) :: F) 57 #[.val (.ref ta), .val (.int old), .val (.int rep), .val (.int a1)] []
      refine s_vret H d7_57 (by decide) (by decide) ?_
      obtain rfl := Option.some.inj hm
      exact ⟨rfl, rfl⟩
  · replace hm := own_ifn c12 hm
    refine s_aloadn H d7_15 rfl rfl (pc' := 16) rfl ?_
    refine s_iloadn H d7_16 rfl (pc' := 17) rfl ?_
    refine s_putf H d7_17 (mem (i := 22) rfl) (Or.inl (mem (i := 23) rfl)) (mem (i := 3) rfl) (ty := .int) (by decide) rfl rfl (i := 4) (j := 5) rfl rfl (pc' := 20) rfl ?_
    show Go Z k 0 0 ((da, ArI Z .boolean d) :: (pa, ArI Z .int p) :: (ra, ArI Z .int r) :: (la, ArI Z .int l) :: (ta, Obj Z "com/example/rekha/rekha/ActiveEdges" [("com/example/rekha/rekha/ActiveEdges", "nil", "I", (.int nl)), ("com/example/rekha/rekha/ActiveEdges", "left", "[I", (.ref la)), ("com/example/rekha/rekha/ActiveEdges", "right", "[I", (.ref ra)), ("com/example/rekha/rekha/ActiveEdges", "parent", "[I", (.ref pa)), ("com/example/rekha/rekha/ActiveEdges", "red", "[Z", (.ref da)), ("com/example/rekha/rekha/ActiveEdges", "root", "I", (.int rep))]) :: F) 20 #[.val (.ref ta), .val (.int old), .val (.int rep), .val (.int a1)] []
    refine s_goto H d7_20 (pc' := 50) (by decide) ?_
    refine s_aloadn H d7_50 rfl rfl (pc' := 51) rfl ?_
    refine s_getf H d7_51 (mem (i := 17) rfl) (i := 4) (j := 3) rfl rfl (pc' := 54) rfl ?_
    refine s_iloadn H d7_54 rfl (pc' := 55) rfl ?_
    refine s_iloadn H d7_55 rfl (pc' := 56) rfl ?_
    obtain ⟨l7, e_l7, hm⟩ := own_bnd hm
    refine s_iastore H d7_56 (i := 1) rfl (pt_ok e_l7).1 (jn := (rep).toNatClampNeg) rfl (pt_ok e_l7).2.1 (pc' := 57) rfl ?_
    rw [(pt_ok e_l7).2.2]
    show Go Z k 0 0 ((da, ArI Z .boolean d) :: (pa, ArI Z .int l7) :: (ra, ArI Z .int r) :: (la, ArI Z .int l) :: (ta, Obj Z "com/example/rekha/rekha/ActiveEdges" [("com/example/rekha/rekha/ActiveEdges", "nil", "I", (.int nl)), ("com/example/rekha/rekha/ActiveEdges", "left", "[I", (.ref la)), ("com/example/rekha/rekha/ActiveEdges", "right", "[I", (.ref ra)), ("com/example/rekha/rekha/ActiveEdges", "parent", "[I", (.ref pa)), ("com/example/rekha/rekha/ActiveEdges", "red", "[Z", (.ref da)), ("com/example/rekha/rekha/ActiveEdges", "root", "I", (.int rep))]) :: F) 57 #[.val (.ref ta), .val (.int old), .val (.int rep), .val (.int a1)] []
    refine s_vret H d7_57 (by decide) (by decide) ?_
    obtain rfl := Option.some.inj hm
    exact ⟨rfl, rfl⟩
def m_ro1 (nl : Int32) (l r p d : List Int32) (root : Int32) (nd : Int32) : Option Tr := (gt r nd).bind fun a1 => (gt l a1).bind fun a2 => (pt r nd a2).bind fun l3 => (if a2 = nl then ((m_tr nl l l3 p d root nd a1).bind fun t4 => (pt t4.l a1 nd).bind fun l5 => (pt t4.p nd a1).bind fun l6 => (some (Tr.mk l5 t4.r l6 t4.d t4.root))) else ((pt p a2 nd).bind fun l7 => (m_tr nl l l3 l7 d root nd a1).bind fun t8 => (pt t8.l a1 nd).bind fun l9 => (pt t8.p nd a1).bind fun l10 => (some (Tr.mk l9 t8.r l10 t8.d t8.root))))
set_option maxRecDepth 65536 in
set_option maxHeartbeats 40000000 in
theorem met_ro1 {Z : State} (HT : Tb Z) {F : Hp} {nl root : Int32} {l r p d : List Int32} (ta la ra pa da : Addr) (nd : Int32) {o : Tr} (hm : m_ro1 nl l r p d root nd = some o) : Met Z y_6 prog_2_method_14_code 5 none ({ frames := 1, cells := 0, slots := 0, locals := 15 } : Room) [(.ref ta), (.int nd), (.int (1 : Int32))] ((da, ArI Z .boolean d) :: (pa, ArI Z .int p) :: (ra, ArI Z .int r) :: (la, ArI Z .int l) :: (ta, Obj Z "com/example/rekha/rekha/ActiveEdges" [("com/example/rekha/rekha/ActiveEdges", "nil", "I", (.int nl)), ("com/example/rekha/rekha/ActiveEdges", "left", "[I", (.ref la)), ("com/example/rekha/rekha/ActiveEdges", "right", "[I", (.ref ra)), ("com/example/rekha/rekha/ActiveEdges", "parent", "[I", (.ref pa)), ("com/example/rekha/rekha/ActiveEdges", "red", "[Z", (.ref da)), ("com/example/rekha/rekha/ActiveEdges", "root", "I", (.int root))]) :: F) (fun v M' => v = none ∧ M' = ((da, ArI Z .boolean o.d) :: (pa, ArI Z .int o.p) :: (ra, ArI Z .int o.r) :: (la, ArI Z .int o.l) :: (ta, Obj Z "com/example/rekha/rekha/ActiveEdges" [("com/example/rekha/rekha/ActiveEdges", "nil", "I", (.int nl)), ("com/example/rekha/rekha/ActiveEdges", "left", "[I", (.ref la)), ("com/example/rekha/rekha/ActiveEdges", "right", "[I", (.ref ra)), ("com/example/rekha/rekha/ActiveEdges", "parent", "[I", (.ref pa)), ("com/example/rekha/rekha/ActiveEdges", "red", "[Z", (.ref da)), ("com/example/rekha/rekha/ActiveEdges", "root", "I", (.int o.root))]) :: F)) := by
  refine Met.of HT pl_6 (Ls := #[.val (.ref ta), .val (.int nd), .val (.int (1 : Int32)), .unset, .unset]) (fun m => by first | (simp [entryFrame, mkF, argsToLocals, Value.category]; done) | rfl) (fun k H => ?_)
  unfold m_ro1 at hm
  refine s_iloadn H d6_0 rfl (pc' := 1) rfl ?_
  refine s_if H d6_1 (py := 13) (pc' := 4) z_eq (by decide) rfl (fun c1 => ?_) (fun c1 => ?_)
  · exact absurd c1 (by decide)
  · refine s_aloadn H d6_4 rfl rfl (pc' := 5) rfl ?_
    refine s_getf H d6_5 (mem (i := 15) rfl) (i := 4) (j := 2) rfl rfl (pc' := 8) rfl ?_
    refine s_iloadn H d6_8 rfl (pc' := 9) rfl ?_
    obtain ⟨a1, e_a1, hm⟩ := own_bnd hm
    refine s_iaload H d6_9 (i := 2) rfl (x := a1) (gt_ok e_a1).1 (jn := (nd).toNatClampNeg) rfl (gt_ok e_a1).2 (pc' := 10) rfl ?_
    refine s_goto H d6_10 (pc' := 19) (by decide) ?_
    refine s_istoren H d6_19 (L' := fun z => #[.val (.ref ta), .val (.int nd), .val (.int (1 : Int32)), .val (.int z), .unset]) (fun _ => rfl) (pc' := 20) rfl (fun z0 hz => ?_)
    subst z0
    refine s_iloadn H d6_20 rfl (pc' := 21) rfl ?_
    refine s_if H d6_21 (py := 33) (pc' := 24) z_eq (by decide) rfl (fun c21 => ?_) (fun c21 => ?_)
    · exact absurd c21 (by decide)
    · refine s_aloadn H d6_24 rfl rfl (pc' := 25) rfl ?_
      refine s_getf H d6_25 (mem (i := 13) rfl) (i := 4) (j := 1) rfl rfl (pc' := 28) rfl ?_
      refine s_iloadn H d6_28 rfl (pc' := 29) rfl ?_
      obtain ⟨a2, e_a2, hm⟩ := own_bnd hm
      refine s_iaload H d6_29 (i := 3) rfl (x := a2) (gt_ok e_a2).1 (jn := (a1).toNatClampNeg) rfl (gt_ok e_a2).2 (pc' := 30) rfl ?_
      refine s_goto H d6_30 (pc' := 39) (by decide) ?_
      refine s_istore H d6_39 (L' := fun z => #[.val (.ref ta), .val (.int nd), .val (.int (1 : Int32)), .val (.int a1), .val (.int z)]) (fun _ => rfl) (pc' := 41) rfl (fun z0 hz => ?_)
      subst z0
      refine s_iloadn H d6_41 rfl (pc' := 42) rfl ?_
      refine s_if H d6_42 (py := 56) (pc' := 45) z_eq (by decide) rfl (fun c42 => ?_) (fun c42 => ?_)
      · exact absurd c42 (by decide)
      · refine s_aloadn H d6_45 rfl rfl (pc' := 46) rfl ?_
        refine s_getf H d6_46 (mem (i := 15) rfl) (i := 4) (j := 2) rfl rfl (pc' := 49) rfl ?_
        refine s_iloadn H d6_49 rfl (pc' := 50) rfl ?_
        refine s_iload H d6_50 rfl (pc' := 52) rfl ?_
        obtain ⟨l3, e_l3, hm⟩ := own_bnd hm
        refine s_iastore H d6_52 (i := 2) rfl (pt_ok e_l3).1 (jn := (nd).toNatClampNeg) rfl (pt_ok e_l3).2.1 (pc' := 53) rfl ?_
        rw [(pt_ok e_l3).2.2]
        show Go Z k 0 0 ((da, ArI Z .boolean d) :: (pa, ArI Z .int p) :: (ra, ArI Z .int l3) :: (la, ArI Z .int l) :: (ta, Obj Z "com/example/rekha/rekha/ActiveEdges" [("com/example/rekha/rekha/ActiveEdges", "nil", "I", (.int nl)), ("com/example/rekha/rekha/ActiveEdges", "left", "[I", (.ref la)), ("com/example/rekha/rekha/ActiveEdges", "right", "[I", (.ref ra)), ("com/example/rekha/rekha/ActiveEdges", "parent", "[I", (.ref pa)), ("com/example/rekha/rekha/ActiveEdges", "red", "[Z", (.ref da)), ("com/example/rekha/rekha/ActiveEdges", "root", "I", (.int root))]) :: F) 53 #[.val (.ref ta), .val (.int nd), .val (.int (1 : Int32)), .val (.int a1), .val (.int a2)] []
        refine s_goto H d6_53 (pc' := 64) (by decide) ?_
        refine s_iload H d6_64 rfl (pc' := 66) rfl ?_
        refine s_aloadn H d6_66 rfl rfl (pc' := 67) rfl ?_
        refine s_getf H d6_67 (mem (i := 11) rfl) (i := 4) (j := 0) rfl rfl (pc' := 70) rfl ?_
        refine s_icmp H d6_70 (py := 81) (pc' := 73) q_eq (by decide) rfl (fun c70 => ?_) (fun c70 => ?_)
        · replace hm := own_ifp c70 hm
          refine s_aloadn H d6_81 rfl rfl (pc' := 82) rfl ?_
          refine s_iloadn H d6_82 rfl (pc' := 83) rfl ?_
          refine s_iloadn H d6_83 rfl (pc' := 84) rfl ?_
          obtain ⟨t4, e_t4, hm⟩ := own_bnd hm
          refine s_priv H (met_tr H.tb ta la ra pa da nd a1 e_t4) d6_84 (i := 4) rfl (mem (i := 41) rfl) (mem (i := 43) rfl) (mem (i := 27) rfl) rfl (mem (i := 42) rfl) (mem (i := 4) rfl) (mem (i := 44) rfl) (by decide) pd_7 rfl (rest := []) rfl rfl (by decide) (Nat.le_of_ble_eq_true rfl) (cn' := 0) (sn' := 0) rfl rfl (by decide) (by decide) (pc' := 87) rfl (fun v0 M0 hq => ?_)
          obtain ⟨rfl, hm0⟩ := hq
          subst M0
          show Go Z k 0 0 ((da, ArI Z .boolean t4.d) :: (pa, ArI Z .int t4.p) :: (ra, ArI Z .int t4.r) :: (la, ArI Z .int t4.l) :: (ta, Obj Z "com/example/rekha/rekha/ActiveEdges" [("com/example/rekha/rekha/ActiveEdges", "nil", "I", (.int nl)), ("com/example/rekha/rekha/ActiveEdges", "left", "[I", (.ref la)), ("com/example/rekha/rekha/ActiveEdges", "right", "[I", (.ref ra)), ("com/example/rekha/rekha/ActiveEdges", "parent", "[I", (.ref pa)), ("com/example/rekha/rekha/ActiveEdges", "red", "[Z", (.ref da)), ("com/example/rekha/rekha/ActiveEdges", "root", "I", (.int t4.root))]) :: F) 87 #[.val (.ref ta), .val (.int nd), .val (.int (1 : Int32)), .val (.int a1), .val (.int a2)] []
          refine s_iloadn H d6_87 rfl (pc' := 88) rfl ?_
          refine s_if H d6_88 (py := 101) (pc' := 91) z_eq (by decide) rfl (fun c88 => ?_) (fun c88 => ?_)
          · exact absurd c88 (by decide)
          · refine s_aloadn H d6_91 rfl rfl (pc' := 92) rfl ?_
            refine s_getf H d6_92 (mem (i := 13) rfl) (i := 4) (j := 1) rfl rfl (pc' := 95) rfl ?_
            refine s_iloadn H d6_95 rfl (pc' := 96) rfl ?_
            refine s_iloadn H d6_96 rfl (pc' := 97) rfl ?_
            obtain ⟨l5, e_l5, hm⟩ := own_bnd hm
            refine s_iastore H d6_97 (i := 3) rfl (pt_ok e_l5).1 (jn := (a1).toNatClampNeg) rfl (pt_ok e_l5).2.1 (pc' := 98) rfl ?_
            rw [(pt_ok e_l5).2.2]
            show Go Z k 0 0 ((da, ArI Z .boolean t4.d) :: (pa, ArI Z .int t4.p) :: (ra, ArI Z .int t4.r) :: (la, ArI Z .int l5) :: (ta, Obj Z "com/example/rekha/rekha/ActiveEdges" [("com/example/rekha/rekha/ActiveEdges", "nil", "I", (.int nl)), ("com/example/rekha/rekha/ActiveEdges", "left", "[I", (.ref la)), ("com/example/rekha/rekha/ActiveEdges", "right", "[I", (.ref ra)), ("com/example/rekha/rekha/ActiveEdges", "parent", "[I", (.ref pa)), ("com/example/rekha/rekha/ActiveEdges", "red", "[Z", (.ref da)), ("com/example/rekha/rekha/ActiveEdges", "root", "I", (.int t4.root))]) :: F) 98 #[.val (.ref ta), .val (.int nd), .val (.int (1 : Int32)), .val (.int a1), .val (.int a2)] []
            refine s_goto H d6_98 (pc' := 108) (by decide) ?_
            refine s_aloadn H d6_108 rfl rfl (pc' := 109) rfl ?_
            refine s_getf H d6_109 (mem (i := 17) rfl) (i := 4) (j := 3) rfl rfl (pc' := 112) rfl ?_
            refine s_iloadn H d6_112 rfl (pc' := 113) rfl ?_
            refine s_iloadn H d6_113 rfl (pc' := 114) rfl ?_
            obtain ⟨l6, e_l6, hm⟩ := own_bnd hm
            refine s_iastore H d6_114 (i := 1) rfl (pt_ok e_l6).1 (jn := (nd).toNatClampNeg) rfl (pt_ok e_l6).2.1 (pc' := 115) rfl ?_
            rw [(pt_ok e_l6).2.2]
            show Go Z k 0 0 ((da, ArI Z .boolean t4.d) :: (pa, ArI Z .int l6) :: (ra, ArI Z .int t4.r) :: (la, ArI Z .int l5) :: (ta, Obj Z "com/example/rekha/rekha/ActiveEdges" [("com/example/rekha/rekha/ActiveEdges", "nil", "I", (.int nl)), ("com/example/rekha/rekha/ActiveEdges", "left", "[I", (.ref la)), ("com/example/rekha/rekha/ActiveEdges", "right", "[I", (.ref ra)), ("com/example/rekha/rekha/ActiveEdges", "parent", "[I", (.ref pa)), ("com/example/rekha/rekha/ActiveEdges", "red", "[Z", (.ref da)), ("com/example/rekha/rekha/ActiveEdges", "root", "I", (.int t4.root))]) :: F) 115 #[.val (.ref ta), .val (.int nd), .val (.int (1 : Int32)), .val (.int a1), .val (.int a2)] []
            refine s_vret H d6_115 (by decide) (by decide) ?_
            obtain rfl := Option.some.inj hm
            exact ⟨rfl, rfl⟩
        · replace hm := own_ifn c70 hm
          refine s_aloadn H d6_73 rfl rfl (pc' := 74) rfl ?_
          refine s_getf H d6_74 (mem (i := 17) rfl) (i := 4) (j := 3) rfl rfl (pc' := 77) rfl ?_
          refine s_iload H d6_77 rfl (pc' := 79) rfl ?_
          refine s_iloadn H d6_79 rfl (pc' := 80) rfl ?_
          obtain ⟨l7, e_l7, hm⟩ := own_bnd hm
          refine s_iastore H d6_80 (i := 1) rfl (pt_ok e_l7).1 (jn := (a2).toNatClampNeg) rfl (pt_ok e_l7).2.1 (pc' := 81) rfl ?_
          rw [(pt_ok e_l7).2.2]
          show Go Z k 0 0 ((da, ArI Z .boolean d) :: (pa, ArI Z .int l7) :: (ra, ArI Z .int l3) :: (la, ArI Z .int l) :: (ta, Obj Z "com/example/rekha/rekha/ActiveEdges" [("com/example/rekha/rekha/ActiveEdges", "nil", "I", (.int nl)), ("com/example/rekha/rekha/ActiveEdges", "left", "[I", (.ref la)), ("com/example/rekha/rekha/ActiveEdges", "right", "[I", (.ref ra)), ("com/example/rekha/rekha/ActiveEdges", "parent", "[I", (.ref pa)), ("com/example/rekha/rekha/ActiveEdges", "red", "[Z", (.ref da)), ("com/example/rekha/rekha/ActiveEdges", "root", "I", (.int root))]) :: F) 81 #[.val (.ref ta), .val (.int nd), .val (.int (1 : Int32)), .val (.int a1), .val (.int a2)] []
          refine s_aloadn H d6_81 rfl rfl (pc' := 82) rfl ?_
          refine s_iloadn H d6_82 rfl (pc' := 83) rfl ?_
          refine s_iloadn H d6_83 rfl (pc' := 84) rfl ?_
          obtain ⟨t8, e_t8, hm⟩ := own_bnd hm
          refine s_priv H (met_tr H.tb ta la ra pa da nd a1 e_t8) d6_84 (i := 4) rfl (mem (i := 41) rfl) (mem (i := 43) rfl) (mem (i := 27) rfl) rfl (mem (i := 42) rfl) (mem (i := 4) rfl) (mem (i := 44) rfl) (by decide) pd_7 rfl (rest := []) rfl rfl (by decide) (Nat.le_of_ble_eq_true rfl) (cn' := 0) (sn' := 0) rfl rfl (by decide) (by decide) (pc' := 87) rfl (fun v0 M0 hq => ?_)
          obtain ⟨rfl, hm0⟩ := hq
          subst M0
          show Go Z k 0 0 ((da, ArI Z .boolean t8.d) :: (pa, ArI Z .int t8.p) :: (ra, ArI Z .int t8.r) :: (la, ArI Z .int t8.l) :: (ta, Obj Z "com/example/rekha/rekha/ActiveEdges" [("com/example/rekha/rekha/ActiveEdges", "nil", "I", (.int nl)), ("com/example/rekha/rekha/ActiveEdges", "left", "[I", (.ref la)), ("com/example/rekha/rekha/ActiveEdges", "right", "[I", (.ref ra)), ("com/example/rekha/rekha/ActiveEdges", "parent", "[I", (.ref pa)), ("com/example/rekha/rekha/ActiveEdges", "red", "[Z", (.ref da)), ("com/example/rekha/rekha/ActiveEdges", "root", "I", (.int t8.root))]) :: F) 87 #[.val (.ref ta), .val (.int nd), .val (.int (1 : Int32)), .val (.int a1), .val (.int a2)] []
          refine s_iloadn H d6_87 rfl (pc' := 88) rfl ?_
          refine s_if H d6_88 (py := 101) (pc' := 91) z_eq (by decide) rfl (fun c88 => ?_) (fun c88 => ?_)
          · exact absurd c88 (by decide)
          · refine s_aloadn H d6_91 rfl rfl (pc' := 92) rfl ?_
            refine s_getf H d6_92 (mem (i := 13) rfl) (i := 4) (j := 1) rfl rfl (pc' := 95) rfl ?_
            refine s_iloadn H d6_95 rfl (pc' := 96) rfl ?_
            refine s_iloadn H d6_96 rfl (pc' := 97) rfl ?_
            obtain ⟨l9, e_l9, hm⟩ := own_bnd hm
            refine s_iastore H d6_97 (i := 3) rfl (pt_ok e_l9).1 (jn := (a1).toNatClampNeg) rfl (pt_ok e_l9).2.1 (pc' := 98) rfl ?_
            rw [(pt_ok e_l9).2.2]
            show Go Z k 0 0 ((da, ArI Z .boolean t8.d) :: (pa, ArI Z .int t8.p) :: (ra, ArI Z .int t8.r) :: (la, ArI Z .int l9) :: (ta, Obj Z "com/example/rekha/rekha/ActiveEdges" [("com/example/rekha/rekha/ActiveEdges", "nil", "I", (.int nl)), ("com/example/rekha/rekha/ActiveEdges", "left", "[I", (.ref la)), ("com/example/rekha/rekha/ActiveEdges", "right", "[I", (.ref ra)), ("com/example/rekha/rekha/ActiveEdges", "parent", "[I", (.ref pa)), ("com/example/rekha/rekha/ActiveEdges", "red", "[Z", (.ref da)), ("com/example/rekha/rekha/ActiveEdges", "root", "I", (.int t8.root))]) :: F) 98 #[.val (.ref ta), .val (.int nd), .val (.int (1 : Int32)), .val (.int a1), .val (.int a2)] []
            refine s_goto H d6_98 (pc' := 108) (by decide) ?_
            refine s_aloadn H d6_108 rfl rfl (pc' := 109) rfl ?_
            refine s_getf H d6_109 (mem (i := 17) rfl) (i := 4) (j := 3) rfl rfl (pc' := 112) rfl ?_
            refine s_iloadn H d6_112 rfl (pc' := 113) rfl ?_
            refine s_iloadn H d6_113 rfl (pc' := 114) rfl ?_
            obtain ⟨l10, e_l10, hm⟩ := own_bnd hm
            refine s_iastore H d6_114 (i := 1) rfl (pt_ok e_l10).1 (jn := (nd).toNatClampNeg) rfl (pt_ok e_l10).2.1 (pc' := 115) rfl ?_
            rw [(pt_ok e_l10).2.2]
            show Go Z k 0 0 ((da, ArI Z .boolean t8.d) :: (pa, ArI Z .int l10) :: (ra, ArI Z .int t8.r) :: (la, ArI Z .int l9) :: (ta, Obj Z "com/example/rekha/rekha/ActiveEdges" [("com/example/rekha/rekha/ActiveEdges", "nil", "I", (.int nl)), ("com/example/rekha/rekha/ActiveEdges", "left", "[I", (.ref la)), ("com/example/rekha/rekha/ActiveEdges", "right", "[I", (.ref ra)), ("com/example/rekha/rekha/ActiveEdges", "parent", "[I", (.ref pa)), ("com/example/rekha/rekha/ActiveEdges", "red", "[Z", (.ref da)), ("com/example/rekha/rekha/ActiveEdges", "root", "I", (.int t8.root))]) :: F) 115 #[.val (.ref ta), .val (.int nd), .val (.int (1 : Int32)), .val (.int a1), .val (.int a2)] []
            refine s_vret H d6_115 (by decide) (by decide) ?_
            obtain rfl := Option.some.inj hm
            exact ⟨rfl, rfl⟩
def m_ro0 (nl : Int32) (l r p d : List Int32) (root : Int32) (nd : Int32) : Option Tr := (gt l nd).bind fun a1 => (gt r a1).bind fun a2 => (pt l nd a2).bind fun l3 => (if a2 = nl then ((m_tr nl l3 r p d root nd a1).bind fun t4 => (pt t4.r a1 nd).bind fun l5 => (pt t4.p nd a1).bind fun l6 => (some (Tr.mk t4.l l5 l6 t4.d t4.root))) else ((pt p a2 nd).bind fun l7 => (m_tr nl l3 r l7 d root nd a1).bind fun t8 => (pt t8.r a1 nd).bind fun l9 => (pt t8.p nd a1).bind fun l10 => (some (Tr.mk t8.l l9 l10 t8.d t8.root))))
set_option maxRecDepth 65536 in
set_option maxHeartbeats 40000000 in
theorem met_ro0 {Z : State} (HT : Tb Z) {F : Hp} {nl root : Int32} {l r p d : List Int32} (ta la ra pa da : Addr) (nd : Int32) {o : Tr} (hm : m_ro0 nl l r p d root nd = some o) : Met Z y_6 prog_2_method_14_code 5 none ({ frames := 1, cells := 0, slots := 0, locals := 15 } : Room) [(.ref ta), (.int nd), (.int (0 : Int32))] ((da, ArI Z .boolean d) :: (pa, ArI Z .int p) :: (ra, ArI Z .int r) :: (la, ArI Z .int l) :: (ta, Obj Z "com/example/rekha/rekha/ActiveEdges" [("com/example/rekha/rekha/ActiveEdges", "nil", "I", (.int nl)), ("com/example/rekha/rekha/ActiveEdges", "left", "[I", (.ref la)), ("com/example/rekha/rekha/ActiveEdges", "right", "[I", (.ref ra)), ("com/example/rekha/rekha/ActiveEdges", "parent", "[I", (.ref pa)), ("com/example/rekha/rekha/ActiveEdges", "red", "[Z", (.ref da)), ("com/example/rekha/rekha/ActiveEdges", "root", "I", (.int root))]) :: F) (fun v M' => v = none ∧ M' = ((da, ArI Z .boolean o.d) :: (pa, ArI Z .int o.p) :: (ra, ArI Z .int o.r) :: (la, ArI Z .int o.l) :: (ta, Obj Z "com/example/rekha/rekha/ActiveEdges" [("com/example/rekha/rekha/ActiveEdges", "nil", "I", (.int nl)), ("com/example/rekha/rekha/ActiveEdges", "left", "[I", (.ref la)), ("com/example/rekha/rekha/ActiveEdges", "right", "[I", (.ref ra)), ("com/example/rekha/rekha/ActiveEdges", "parent", "[I", (.ref pa)), ("com/example/rekha/rekha/ActiveEdges", "red", "[Z", (.ref da)), ("com/example/rekha/rekha/ActiveEdges", "root", "I", (.int o.root))]) :: F)) := by
  refine Met.of HT pl_6 (Ls := #[.val (.ref ta), .val (.int nd), .val (.int (0 : Int32)), .unset, .unset]) (fun m => by first | (simp [entryFrame, mkF, argsToLocals, Value.category]; done) | rfl) (fun k H => ?_)
  unfold m_ro0 at hm
  refine s_iloadn H d6_0 rfl (pc' := 1) rfl ?_
  refine s_if H d6_1 (py := 13) (pc' := 4) z_eq (by decide) rfl (fun c1 => ?_) (fun c1 => ?_)
  · refine s_aloadn H d6_13 rfl rfl (pc' := 14) rfl ?_
    refine s_getf H d6_14 (mem (i := 13) rfl) (i := 4) (j := 1) rfl rfl (pc' := 17) rfl ?_
    refine s_iloadn H d6_17 rfl (pc' := 18) rfl ?_
    obtain ⟨a1, e_a1, hm⟩ := own_bnd hm
    refine s_iaload H d6_18 (i := 3) rfl (x := a1) (gt_ok e_a1).1 (jn := (nd).toNatClampNeg) rfl (gt_ok e_a1).2 (pc' := 19) rfl ?_
    refine s_istoren H d6_19 (L' := fun z => #[.val (.ref ta), .val (.int nd), .val (.int (0 : Int32)), .val (.int z), .unset]) (fun _ => rfl) (pc' := 20) rfl (fun z0 hz => ?_)
    subst z0
    refine s_iloadn H d6_20 rfl (pc' := 21) rfl ?_
    refine s_if H d6_21 (py := 33) (pc' := 24) z_eq (by decide) rfl (fun c21 => ?_) (fun c21 => ?_)
    · refine s_aloadn H d6_33 rfl rfl (pc' := 34) rfl ?_
      refine s_getf H d6_34 (mem (i := 15) rfl) (i := 4) (j := 2) rfl rfl (pc' := 37) rfl ?_
      refine s_iloadn H d6_37 rfl (pc' := 38) rfl ?_
      obtain ⟨a2, e_a2, hm⟩ := own_bnd hm
      refine s_iaload H d6_38 (i := 2) rfl (x := a2) (gt_ok e_a2).1 (jn := (a1).toNatClampNeg) rfl (gt_ok e_a2).2 (pc' := 39) rfl ?_
      refine s_istore H d6_39 (L' := fun z => #[.val (.ref ta), .val (.int nd), .val (.int (0 : Int32)), .val (.int a1), .val (.int z)]) (fun _ => rfl) (pc' := 41) rfl (fun z0 hz => ?_)
      subst z0
      refine s_iloadn H d6_41 rfl (pc' := 42) rfl ?_
      refine s_if H d6_42 (py := 56) (pc' := 45) z_eq (by decide) rfl (fun c42 => ?_) (fun c42 => ?_)
      · refine s_aloadn H d6_56 rfl rfl (pc' := 57) rfl ?_
        refine s_getf H d6_57 (mem (i := 13) rfl) (i := 4) (j := 1) rfl rfl (pc' := 60) rfl ?_
        refine s_iloadn H d6_60 rfl (pc' := 61) rfl ?_
        refine s_iload H d6_61 rfl (pc' := 63) rfl ?_
        obtain ⟨l3, e_l3, hm⟩ := own_bnd hm
        refine s_iastore H d6_63 (i := 3) rfl (pt_ok e_l3).1 (jn := (nd).toNatClampNeg) rfl (pt_ok e_l3).2.1 (pc' := 64) rfl ?_
        rw [(pt_ok e_l3).2.2]
        show Go Z k 0 0 ((da, ArI Z .boolean d) :: (pa, ArI Z .int p) :: (ra, ArI Z .int r) :: (la, ArI Z .int l3) :: (ta, Obj Z "com/example/rekha/rekha/ActiveEdges" [("com/example/rekha/rekha/ActiveEdges", "nil", "I", (.int nl)), ("com/example/rekha/rekha/ActiveEdges", "left", "[I", (.ref la)), ("com/example/rekha/rekha/ActiveEdges", "right", "[I", (.ref ra)), ("com/example/rekha/rekha/ActiveEdges", "parent", "[I", (.ref pa)), ("com/example/rekha/rekha/ActiveEdges", "red", "[Z", (.ref da)), ("com/example/rekha/rekha/ActiveEdges", "root", "I", (.int root))]) :: F) 64 #[.val (.ref ta), .val (.int nd), .val (.int (0 : Int32)), .val (.int a1), .val (.int a2)] []
        refine s_iload H d6_64 rfl (pc' := 66) rfl ?_
        refine s_aloadn H d6_66 rfl rfl (pc' := 67) rfl ?_
        refine s_getf H d6_67 (mem (i := 11) rfl) (i := 4) (j := 0) rfl rfl (pc' := 70) rfl ?_
        refine s_icmp H d6_70 (py := 81) (pc' := 73) q_eq (by decide) rfl (fun c70 => ?_) (fun c70 => ?_)
        · replace hm := own_ifp c70 hm
          refine s_aloadn H d6_81 rfl rfl (pc' := 82) rfl ?_
          refine s_iloadn H d6_82 rfl (pc' := 83) rfl ?_
          refine s_iloadn H d6_83 rfl (pc' := 84) rfl ?_
          obtain ⟨t4, e_t4, hm⟩ := own_bnd hm
          refine s_priv H (met_tr H.tb ta la ra pa da nd a1 e_t4) d6_84 (i := 4) rfl (mem (i := 41) rfl) (mem (i := 43) rfl) (mem (i := 27) rfl) rfl (mem (i := 42) rfl) (mem (i := 4) rfl) (mem (i := 44) rfl) (by decide) pd_7 rfl (rest := []) rfl rfl (by decide) (Nat.le_of_ble_eq_true rfl) (cn' := 0) (sn' := 0) rfl rfl (by decide) (by decide) (pc' := 87) rfl (fun v0 M0 hq => ?_)
          obtain ⟨rfl, hm0⟩ := hq
          subst M0
          show Go Z k 0 0 ((da, ArI Z .boolean t4.d) :: (pa, ArI Z .int t4.p) :: (ra, ArI Z .int t4.r) :: (la, ArI Z .int t4.l) :: (ta, Obj Z "com/example/rekha/rekha/ActiveEdges" [("com/example/rekha/rekha/ActiveEdges", "nil", "I", (.int nl)), ("com/example/rekha/rekha/ActiveEdges", "left", "[I", (.ref la)), ("com/example/rekha/rekha/ActiveEdges", "right", "[I", (.ref ra)), ("com/example/rekha/rekha/ActiveEdges", "parent", "[I", (.ref pa)), ("com/example/rekha/rekha/ActiveEdges", "red", "[Z", (.ref da)), ("com/example/rekha/rekha/ActiveEdges", "root", "I", (.int t4.root))]) :: F) 87 #[.val (.ref ta), .val (.int nd), .val (.int (0 : Int32)), .val (.int a1), .val (.int a2)] []
          refine s_iloadn H d6_87 rfl (pc' := 88) rfl ?_
          refine s_if H d6_88 (py := 101) (pc' := 91) z_eq (by decide) rfl (fun c88 => ?_) (fun c88 => ?_)
          · refine s_aloadn H d6_101 rfl rfl (pc' := 102) rfl ?_
            refine s_getf H d6_102 (mem (i := 15) rfl) (i := 4) (j := 2) rfl rfl (pc' := 105) rfl ?_
            refine s_iloadn H d6_105 rfl (pc' := 106) rfl ?_
            refine s_iloadn H d6_106 rfl (pc' := 107) rfl ?_
            obtain ⟨l5, e_l5, hm⟩ := own_bnd hm
            refine s_iastore H d6_107 (i := 2) rfl (pt_ok e_l5).1 (jn := (a1).toNatClampNeg) rfl (pt_ok e_l5).2.1 (pc' := 108) rfl ?_
            rw [(pt_ok e_l5).2.2]
            show Go Z k 0 0 ((da, ArI Z .boolean t4.d) :: (pa, ArI Z .int t4.p) :: (ra, ArI Z .int l5) :: (la, ArI Z .int t4.l) :: (ta, Obj Z "com/example/rekha/rekha/ActiveEdges" [("com/example/rekha/rekha/ActiveEdges", "nil", "I", (.int nl)), ("com/example/rekha/rekha/ActiveEdges", "left", "[I", (.ref la)), ("com/example/rekha/rekha/ActiveEdges", "right", "[I", (.ref ra)), ("com/example/rekha/rekha/ActiveEdges", "parent", "[I", (.ref pa)), ("com/example/rekha/rekha/ActiveEdges", "red", "[Z", (.ref da)), ("com/example/rekha/rekha/ActiveEdges", "root", "I", (.int t4.root))]) :: F) 108 #[.val (.ref ta), .val (.int nd), .val (.int (0 : Int32)), .val (.int a1), .val (.int a2)] []
            refine s_aloadn H d6_108 rfl rfl (pc' := 109) rfl ?_
            refine s_getf H d6_109 (mem (i := 17) rfl) (i := 4) (j := 3) rfl rfl (pc' := 112) rfl ?_
            refine s_iloadn H d6_112 rfl (pc' := 113) rfl ?_
            refine s_iloadn H d6_113 rfl (pc' := 114) rfl ?_
            obtain ⟨l6, e_l6, hm⟩ := own_bnd hm
            refine s_iastore H d6_114 (i := 1) rfl (pt_ok e_l6).1 (jn := (nd).toNatClampNeg) rfl (pt_ok e_l6).2.1 (pc' := 115) rfl ?_
            rw [(pt_ok e_l6).2.2]
            show Go Z k 0 0 ((da, ArI Z .boolean t4.d) :: (pa, ArI Z .int l6) :: (ra, ArI Z .int l5) :: (la, ArI Z .int t4.l) :: (ta, Obj Z "com/example/rekha/rekha/ActiveEdges" [("com/example/rekha/rekha/ActiveEdges", "nil", "I", (.int nl)), ("com/example/rekha/rekha/ActiveEdges", "left", "[I", (.ref la)), ("com/example/rekha/rekha/ActiveEdges", "right", "[I", (.ref ra)), ("com/example/rekha/rekha/ActiveEdges", "parent", "[I", (.ref pa)), ("com/example/rekha/rekha/ActiveEdges", "red", "[Z", (.ref da)), ("com/example/rekha/rekha/ActiveEdges", "root", "I", (.int t4.root))]) :: F) 115 #[.val (.ref ta), .val (.int nd), .val (.int (0 : Int32)), .val (.int a1), .val (.int a2)] []
            refine s_vret H d6_115 (by decide) (by decide) ?_
            obtain rfl := Option.some.inj hm
            exact ⟨rfl, rfl⟩
          · exact absurd c88 (by decide)
        · replace hm := own_ifn c70 hm
          refine s_aloadn H d6_73 rfl rfl (pc' := 74) rfl ?_
          refine s_getf H d6_74 (mem (i := 17) rfl) (i := 4) (j := 3) rfl rfl (pc' := 77) rfl ?_
          refine s_iload H d6_77 rfl (pc' := 79) rfl ?_
          refine s_iloadn H d6_79 rfl (pc' := 80) rfl ?_
          obtain ⟨l7, e_l7, hm⟩ := own_bnd hm
          refine s_iastore H d6_80 (i := 1) rfl (pt_ok e_l7).1 (jn := (a2).toNatClampNeg) rfl (pt_ok e_l7).2.1 (pc' := 81) rfl ?_
          rw [(pt_ok e_l7).2.2]
          show Go Z k 0 0 ((da, ArI Z .boolean d) :: (pa, ArI Z .int l7) :: (ra, ArI Z .int r) :: (la, ArI Z .int l3) :: (ta, Obj Z "com/example/rekha/rekha/ActiveEdges" [("com/example/rekha/rekha/ActiveEdges", "nil", "I", (.int nl)), ("com/example/rekha/rekha/ActiveEdges", "left", "[I", (.ref la)), ("com/example/rekha/rekha/ActiveEdges", "right", "[I", (.ref ra)), ("com/example/rekha/rekha/ActiveEdges", "parent", "[I", (.ref pa)), ("com/example/rekha/rekha/ActiveEdges", "red", "[Z", (.ref da)), ("com/example/rekha/rekha/ActiveEdges", "root", "I", (.int root))]) :: F) 81 #[.val (.ref ta), .val (.int nd), .val (.int (0 : Int32)), .val (.int a1), .val (.int a2)] []
          refine s_aloadn H d6_81 rfl rfl (pc' := 82) rfl ?_
          refine s_iloadn H d6_82 rfl (pc' := 83) rfl ?_
          refine s_iloadn H d6_83 rfl (pc' := 84) rfl ?_
          obtain ⟨t8, e_t8, hm⟩ := own_bnd hm
          refine s_priv H (met_tr H.tb ta la ra pa da nd a1 e_t8) d6_84 (i := 4) rfl (mem (i := 41) rfl) (mem (i := 43) rfl) (mem (i := 27) rfl) rfl (mem (i := 42) rfl) (mem (i := 4) rfl) (mem (i := 44) rfl) (by decide) pd_7 rfl (rest := []) rfl rfl (by decide) (Nat.le_of_ble_eq_true rfl) (cn' := 0) (sn' := 0) rfl rfl (by decide) (by decide) (pc' := 87) rfl (fun v0 M0 hq => ?_)
          obtain ⟨rfl, hm0⟩ := hq
          subst M0
          show Go Z k 0 0 ((da, ArI Z .boolean t8.d) :: (pa, ArI Z .int t8.p) :: (ra, ArI Z .int t8.r) :: (la, ArI Z .int t8.l) :: (ta, Obj Z "com/example/rekha/rekha/ActiveEdges" [("com/example/rekha/rekha/ActiveEdges", "nil", "I", (.int nl)), ("com/example/rekha/rekha/ActiveEdges", "left", "[I", (.ref la)), ("com/example/rekha/rekha/ActiveEdges", "right", "[I", (.ref ra)), ("com/example/rekha/rekha/ActiveEdges", "parent", "[I", (.ref pa)), ("com/example/rekha/rekha/ActiveEdges", "red", "[Z", (.ref da)), ("com/example/rekha/rekha/ActiveEdges", "root", "I", (.int t8.root))]) :: F) 87 #[.val (.ref ta), .val (.int nd), .val (.int (0 : Int32)), .val (.int a1), .val (.int a2)] []
          refine s_iloadn H d6_87 rfl (pc' := 88) rfl ?_
          refine s_if H d6_88 (py := 101) (pc' := 91) z_eq (by decide) rfl (fun c88 => ?_) (fun c88 => ?_)
          · refine s_aloadn H d6_101 rfl rfl (pc' := 102) rfl ?_
            refine s_getf H d6_102 (mem (i := 15) rfl) (i := 4) (j := 2) rfl rfl (pc' := 105) rfl ?_
            refine s_iloadn H d6_105 rfl (pc' := 106) rfl ?_
            refine s_iloadn H d6_106 rfl (pc' := 107) rfl ?_
            obtain ⟨l9, e_l9, hm⟩ := own_bnd hm
            refine s_iastore H d6_107 (i := 2) rfl (pt_ok e_l9).1 (jn := (a1).toNatClampNeg) rfl (pt_ok e_l9).2.1 (pc' := 108) rfl ?_
            rw [(pt_ok e_l9).2.2]
            show Go Z k 0 0 ((da, ArI Z .boolean t8.d) :: (pa, ArI Z .int t8.p) :: (ra, ArI Z .int l9) :: (la, ArI Z .int t8.l) :: (ta, Obj Z "com/example/rekha/rekha/ActiveEdges" [("com/example/rekha/rekha/ActiveEdges", "nil", "I", (.int nl)), ("com/example/rekha/rekha/ActiveEdges", "left", "[I", (.ref la)), ("com/example/rekha/rekha/ActiveEdges", "right", "[I", (.ref ra)), ("com/example/rekha/rekha/ActiveEdges", "parent", "[I", (.ref pa)), ("com/example/rekha/rekha/ActiveEdges", "red", "[Z", (.ref da)), ("com/example/rekha/rekha/ActiveEdges", "root", "I", (.int t8.root))]) :: F) 108 #[.val (.ref ta), .val (.int nd), .val (.int (0 : Int32)), .val (.int a1), .val (.int a2)] []
            refine s_aloadn H d6_108 rfl rfl (pc' := 109) rfl ?_
            refine s_getf H d6_109 (mem (i := 17) rfl) (i := 4) (j := 3) rfl rfl (pc' := 112) rfl ?_
            refine s_iloadn H d6_112 rfl (pc' := 113) rfl ?_
            refine s_iloadn H d6_113 rfl (pc' := 114) rfl ?_
            obtain ⟨l10, e_l10, hm⟩ := own_bnd hm
            refine s_iastore H d6_114 (i := 1) rfl (pt_ok e_l10).1 (jn := (nd).toNatClampNeg) rfl (pt_ok e_l10).2.1 (pc' := 115) rfl ?_
            rw [(pt_ok e_l10).2.2]
            show Go Z k 0 0 ((da, ArI Z .boolean t8.d) :: (pa, ArI Z .int l10) :: (ra, ArI Z .int l9) :: (la, ArI Z .int t8.l) :: (ta, Obj Z "com/example/rekha/rekha/ActiveEdges" [("com/example/rekha/rekha/ActiveEdges", "nil", "I", (.int nl)), ("com/example/rekha/rekha/ActiveEdges", "left", "[I", (.ref la)), ("com/example/rekha/rekha/ActiveEdges", "right", "[I", (.ref ra)), ("com/example/rekha/rekha/ActiveEdges", "parent", "[I", (.ref pa)), ("com/example/rekha/rekha/ActiveEdges", "red", "[Z", (.ref da)), ("com/example/rekha/rekha/ActiveEdges", "root", "I", (.int t8.root))]) :: F) 115 #[.val (.ref ta), .val (.int nd), .val (.int (0 : Int32)), .val (.int a1), .val (.int a2)] []
            refine s_vret H d6_115 (by decide) (by decide) ?_
            obtain rfl := Option.some.inj hm
            exact ⟨rfl, rfl⟩
          · exact absurd c88 (by decide)
      · exact absurd c42 (by decide)
    · exact absurd c21 (by decide)
  · exact absurd c1 (by decide)
def m_ail (nl : Int32) : Nat → List Int32 → List Int32 → List Int32 → List Int32 → Int32 → Int32 → Option Tr
  | 0, _, _, _, _, _, _ => none
  | f + 1, l, r, p, d, root, node => (gt p node).bind fun a1 => (gt d a1).bind fun a2 => (if a2 = (0 : Int32) then ((pt d root (0 : Int32)).bind fun l3 => (some (Tr.mk l r p l3 root))) else ((gt p node).bind fun a4 => (gt p a4).bind fun a5 => (gt l a5).bind fun a6 => (if ¬ a4 = a6 then ((gt l a5).bind fun a7 => (gt d a7).bind fun a8 => (if a8 = (0 : Int32) then ((gt l a4).bind fun a9 => (if ¬ node = a9 then ((pt d a4 (0 : Int32)).bind fun l10 => (pt l10 a5 (1 : Int32)).bind fun l11 => (m_ro1 nl l r p l11 root a5).bind fun t12 => (m_ail nl f t12.l t12.r t12.p t12.d t12.root node)) else ((m_ro0 nl l r p d root a4).bind fun t13 => (gt t13.p a4).bind fun a14 => (pt t13.d a14 (0 : Int32)).bind fun l15 => (pt l15 a5 (1 : Int32)).bind fun l16 => (m_ro1 nl t13.l t13.r t13.p l16 t13.root a5).bind fun t17 => (m_ail nl f t17.l t17.r t17.p t17.d t17.root a4)))) else ((pt d a4 (0 : Int32)).bind fun l18 => (pt l18 a7 (0 : Int32)).bind fun l19 => (pt l19 a5 (1 : Int32)).bind fun l20 => (m_ail nl f l r p l20 root a5)))) else ((gt r a5).bind fun a21 => (gt d a21).bind fun a22 => (if a22 = (0 : Int32) then ((gt r a4).bind fun a23 => (if ¬ node = a23 then ((pt d a4 (0 : Int32)).bind fun l24 => (pt l24 a5 (1 : Int32)).bind fun l25 => (m_ro0 nl l r p l25 root a5).bind fun t26 => (m_ail nl f t26.l t26.r t26.p t26.d t26.root node)) else ((m_ro1 nl l r p d root a4).bind fun t27 => (gt t27.p a4).bind fun a28 => (pt t27.d a28 (0 : Int32)).bind fun l29 => (pt l29 a5 (1 : Int32)).bind fun l30 => (m_ro0 nl t27.l t27.r t27.p l30 t27.root a5).bind fun t31 => (m_ail nl f t31.l t31.r t31.p t31.d t31.root a4)))) else ((pt d a4 (0 : Int32)).bind fun l32 => (pt l32 a21 (0 : Int32)).bind fun l33 => (pt l33 a5 (1 : Int32)).bind fun l34 => (m_ail nl f l r p l34 root a5)))))))
set_option maxRecDepth 65536 in
set_option maxHeartbeats 40000000 in
theorem lp_ail {Z : State} {k : Cx} {F : Hp} {nl : Int32} {ta la ra pa da : Addr} {o : Tr} (f : Nat) (l r p d : List Int32) (root node : Int32) (s1 s3 s4 s5 s6 : Int32) (H : Ok Z k ({ frames := 2, cells := 0, slots := 0, locals := 31 } : Room) (fun v M' => v = none ∧ M' = ((da, ArI Z .boolean o.d) :: (pa, ArI Z .int o.p) :: (ra, ArI Z .int o.r) :: (la, ArI Z .int o.l) :: (ta, Obj Z "com/example/rekha/rekha/ActiveEdges" [("com/example/rekha/rekha/ActiveEdges", "nil", "I", (.int nl)), ("com/example/rekha/rekha/ActiveEdges", "left", "[I", (.ref la)), ("com/example/rekha/rekha/ActiveEdges", "right", "[I", (.ref ra)), ("com/example/rekha/rekha/ActiveEdges", "parent", "[I", (.ref pa)), ("com/example/rekha/rekha/ActiveEdges", "red", "[Z", (.ref da)), ("com/example/rekha/rekha/ActiveEdges", "root", "I", (.int o.root))]) :: F)) y_4 prog_2_method_12_code 7 none) (hm : m_ail nl f l r p d root node = some o) : Go Z k 0 0 ((da, ArI Z .boolean d) :: (pa, ArI Z .int p) :: (ra, ArI Z .int r) :: (la, ArI Z .int l) :: (ta, Obj Z "com/example/rekha/rekha/ActiveEdges" [("com/example/rekha/rekha/ActiveEdges", "nil", "I", (.int nl)), ("com/example/rekha/rekha/ActiveEdges", "left", "[I", (.ref la)), ("com/example/rekha/rekha/ActiveEdges", "right", "[I", (.ref ra)), ("com/example/rekha/rekha/ActiveEdges", "parent", "[I", (.ref pa)), ("com/example/rekha/rekha/ActiveEdges", "red", "[Z", (.ref da)), ("com/example/rekha/rekha/ActiveEdges", "root", "I", (.int root))]) :: F) 2 #[.val (.ref ta), .val (.int s1), .val (.int node), .val (.int s3), .val (.int s4), .val (.int s5), .val (.int s6)] [] := by
  induction f generalizing l r p d root node s1 s3 s4 s5 s6 with
  | zero => rw [m_ail] at hm; cases hm
  | succ f ih =>
    rw [m_ail] at hm
    refine s_aloadn H d4_2 rfl rfl (pc' := 3) rfl ?_
    refine s_getf H d4_3 (mem (i := 20) rfl) (i := 4) (j := 4) rfl rfl (pc' := 6) rfl ?_
    refine s_aloadn H d4_6 rfl rfl (pc' := 7) rfl ?_
    refine s_getf H d4_7 (mem (i := 17) rfl) (i := 4) (j := 3) rfl rfl (pc' := 10) rfl ?_
    refine s_iloadn H d4_10 rfl (pc' := 11) rfl ?_
    obtain ⟨a1, e_a1, hm⟩ := own_bnd hm
    refine s_iaload H d4_11 (i := 1) rfl (x := a1) (gt_ok e_a1).1 (jn := (node).toNatClampNeg) rfl (gt_ok e_a1).2 (pc' := 12) rfl ?_
    obtain ⟨a2, e_a2, hm⟩ := own_bnd hm
    refine s_zaload H d4_12 (i := 0) rfl (x := a2) (gt_ok e_a2).1 (jn := (a1).toNatClampNeg) rfl (gt_ok e_a2).2 (pc' := 13) rfl ?_
    refine s_if H d4_13 (py := 186) (pc' := 16) z_eq (by decide) rfl (fun c13 => ?_) (fun c13 => ?_)
    · replace hm := own_ifp c13 hm
      refine s_aloadn H d4_186 rfl rfl (pc' := 187) rfl ?_
      refine s_getf H d4_187 (mem (i := 20) rfl) (i := 4) (j := 4) rfl rfl (pc' := 190) rfl ?_
      refine s_aloadn H d4_190 rfl rfl (pc' := 191) rfl ?_
      refine s_getf H d4_191 (mem (i := 22) rfl) (i := 4) (j := 5) rfl rfl (pc' := 194) rfl ?_
      refine s_iconst H d4_194 (z := (0 : Int32)) (by decide) (pc' := 195) rfl ?_
      obtain ⟨l3, e_l3, hm⟩ := own_bnd hm
      refine s_zastore H d4_195 (i := 0) rfl (pt_ok e_l3).1 (jn := (root).toNatClampNeg) rfl (pt_ok e_l3).2.1 (x := (0 : Int32)) (by decide) (pc' := 196) rfl ?_
      rw [(pt_ok e_l3).2.2]
      show Go Z k 0 0 ((da, ArI Z .boolean l3) :: (pa, ArI Z .int p) :: (ra, ArI Z .int r) :: (la, ArI Z .int l) :: (ta, Obj Z "com/example/rekha/rekha/ActiveEdges" [("com/example/rekha/rekha/ActiveEdges", "nil", "I", (.int nl)), ("com/example/rekha/rekha/ActiveEdges", "left", "[I", (.ref la)), ("com/example/rekha/rekha/ActiveEdges", "right", "[I", (.ref ra)), ("com/example/rekha/rekha/ActiveEdges", "parent", "[I", (.ref pa)), ("com/example/rekha/rekha/ActiveEdges", "red", "[Z", (.ref da)), ("com/example/rekha/rekha/ActiveEdges", "root", "I", (.int root))]) :: F) 196 #[.val (.ref ta), .val (.int s1), .val (.int node), .val (.int s3), .val (.int s4), .val (.int s5), .val (.int s6)] []
      refine s_vret H d4_196 (by decide) (by decide) ?_
      obtain rfl := Option.some.inj hm
      exact ⟨rfl, rfl⟩
    · replace hm := own_ifn c13 hm
      refine s_aloadn H d4_16 rfl rfl (pc' := 17) rfl ?_
      refine s_getf H d4_17 (mem (i := 17) rfl) (i := 4) (j := 3) rfl rfl (pc' := 20) rfl ?_
      refine s_iloadn H d4_20 rfl (pc' := 21) rfl ?_
      obtain ⟨a4, e_a4, hm⟩ := own_bnd hm
      refine s_iaload H d4_21 (i := 1) rfl (x := a4) (gt_ok e_a4).1 (jn := (node).toNatClampNeg) rfl (gt_ok e_a4).2 (pc' := 22) rfl ?_
      refine s_istoren H d4_22 (L' := fun z => #[.val (.ref ta), .val (.int s1), .val (.int node), .val (.int z), .val (.int s4), .val (.int s5), .val (.int s6)]) (fun _ => rfl) (pc' := 23) rfl (fun z0 hz => ?_)
      subst z0
      refine s_aloadn H d4_23 rfl rfl (pc' := 24) rfl ?_
      refine s_getf H d4_24 (mem (i := 17) rfl) (i := 4) (j := 3) rfl rfl (pc' := 27) rfl ?_
      refine s_iloadn H d4_27 rfl (pc' := 28) rfl ?_
      obtain ⟨a5, e_a5, hm⟩ := own_bnd hm
      refine s_iaload H d4_28 (i := 1) rfl (x := a5) (gt_ok e_a5).1 (jn := (a4).toNatClampNeg) rfl (gt_ok e_a5).2 (pc' := 29) rfl ?_
      refine s_istore H d4_29 (L' := fun z => #[.val (.ref ta), .val (.int s1), .val (.int node), .val (.int a4), .val (.int z), .val (.int s5), .val (.int s6)]) (fun _ => rfl) (pc' := 31) rfl (fun z0 hz => ?_)
      subst z0
      refine s_iloadn H d4_31 rfl (pc' := 32) rfl ?_
      refine s_aloadn H d4_32 rfl rfl (pc' := 33) rfl ?_
      refine s_getf H d4_33 (mem (i := 13) rfl) (i := 4) (j := 1) rfl rfl (pc' := 36) rfl ?_
      refine s_iload H d4_36 rfl (pc' := 38) rfl ?_
      obtain ⟨a6, e_a6, hm⟩ := own_bnd hm
      refine s_iaload H d4_38 (i := 3) rfl (x := a6) (gt_ok e_a6).1 (jn := (a5).toNatClampNeg) rfl (gt_ok e_a6).2 (pc' := 39) rfl ?_
      refine s_icmp H d4_39 (py := 46) (pc' := 42) q_ne (by decide) rfl (fun c39 => ?_) (fun c39 => ?_)
      · replace hm := own_ifp c39 hm
        refine s_iconst H d4_46 (z := (0 : Int32)) (by decide) (pc' := 47) rfl ?_
        refine s_istore H d4_47 (L' := fun z => #[.val (.ref ta), .val (.int s1), .val (.int node), .val (.int a4), .val (.int a5), .val (.int z), .val (.int s6)]) (fun _ => rfl) (pc' := 49) rfl (fun z0 hz => ?_)
        subst z0
        refine s_iload H d4_49 rfl (pc' := 51) rfl ?_
        refine s_if H d4_51 (py := 64) (pc' := 54) z_eq (by decide) rfl (fun c51 => ?_) (fun c51 => ?_)
        · refine s_aloadn H d4_64 rfl rfl (pc' := 65) rfl ?_
          refine s_getf H d4_65 (mem (i := 13) rfl) (i := 4) (j := 1) rfl rfl (pc' := 68) rfl ?_
          refine s_iload H d4_68 rfl (pc' := 70) rfl ?_
          obtain ⟨a7, e_a7, hm⟩ := own_bnd hm
          refine s_iaload H d4_70 (i := 3) rfl (x := a7) (gt_ok e_a7).1 (jn := (a5).toNatClampNeg) rfl (gt_ok e_a7).2 (pc' := 71) rfl ?_
          refine s_istore H d4_71 (L' := fun z => #[.val (.ref ta), .val (.int s1), .val (.int node), .val (.int a4), .val (.int a5), .val (.int (0 : Int32)), .val (.int z)]) (fun _ => rfl) (pc' := 73) rfl (fun z0 hz => ?_)
          subst z0
          refine s_aloadn H d4_73 rfl rfl (pc' := 74) rfl ?_
          refine s_getf H d4_74 (mem (i := 20) rfl) (i := 4) (j := 4) rfl rfl (pc' := 77) rfl ?_
          refine s_iload H d4_77 rfl (pc' := 79) rfl ?_
          obtain ⟨a8, e_a8, hm⟩ := own_bnd hm
          refine s_zaload H d4_79 (i := 0) rfl (x := a8) (gt_ok e_a8).1 (jn := (a7).toNatClampNeg) rfl (gt_ok e_a8).2 (pc' := 80) rfl ?_
          refine s_if H d4_80 (py := 112) (pc' := 83) z_eq (by decide) rfl (fun c80 => ?_) (fun c80 => ?_)
          · replace hm := own_ifp c80 hm
            refine s_iloadn H d4_112 rfl (pc' := 113) rfl ?_
            refine s_iload H d4_113 rfl (pc' := 115) rfl ?_
            refine s_if H d4_115 (py := 127) (pc' := 118) z_eq (by decide) rfl (fun c115 => ?_) (fun c115 => ?_)
            · refine s_aloadn H d4_127 rfl rfl (pc' := 128) rfl ?_
              refine s_getf H d4_128 (mem (i := 13) rfl) (i := 4) (j := 1) rfl rfl (pc' := 131) rfl ?_
              refine s_iloadn H d4_131 rfl (pc' := 132) rfl ?_
              obtain ⟨a9, e_a9, hm⟩ := own_bnd hm
              refine s_iaload H d4_132 (i := 3) rfl (x := a9) (gt_ok e_a9).1 (jn := (a4).toNatClampNeg) rfl (gt_ok e_a9).2 (pc' := 133) rfl ?_
              refine s_icmp H d4_133 (py := 152) (pc' := 136) q_ne (by decide) rfl (fun c133 => ?_) (fun c133 => ?_)
              · replace hm := own_ifp c133 hm
                refine s_aloadn H d4_152 rfl rfl (pc' := 153) rfl ?_
                refine s_getf H d4_153 (mem (i := 20) rfl) (i := 4) (j := 4) rfl rfl (pc' := 156) rfl ?_
                refine s_iloadn H d4_156 rfl (pc' := 157) rfl ?_
                refine s_iconst H d4_157 (z := (0 : Int32)) (by decide) (pc' := 158) rfl ?_
                obtain ⟨l10, e_l10, hm⟩ := own_bnd hm
                refine s_zastore H d4_158 (i := 0) rfl (pt_ok e_l10).1 (jn := (a4).toNatClampNeg) rfl (pt_ok e_l10).2.1 (x := (0 : Int32)) (by decide) (pc' := 159) rfl ?_
                rw [(pt_ok e_l10).2.2]
                show Go Z k 0 0 ((da, ArI Z .boolean l10) :: (pa, ArI Z .int p) :: (ra, ArI Z .int r) :: (la, ArI Z .int l) :: (ta, Obj Z "com/example/rekha/rekha/ActiveEdges" [("com/example/rekha/rekha/ActiveEdges", "nil", "I", (.int nl)), ("com/example/rekha/rekha/ActiveEdges", "left", "[I", (.ref la)), ("com/example/rekha/rekha/ActiveEdges", "right", "[I", (.ref ra)), ("com/example/rekha/rekha/ActiveEdges", "parent", "[I", (.ref pa)), ("com/example/rekha/rekha/ActiveEdges", "red", "[Z", (.ref da)), ("com/example/rekha/rekha/ActiveEdges", "root", "I", (.int root))]) :: F) 159 #[.val (.ref ta), .val (.int s1), .val (.int node), .val (.int a4), .val (.int a5), .val (.int (0 : Int32)), .val (.int a7)] []
                refine s_aloadn H d4_159 rfl rfl (pc' := 160) rfl ?_
                refine s_getf H d4_160 (mem (i := 20) rfl) (i := 4) (j := 4) rfl rfl (pc' := 163) rfl ?_
                refine s_iload H d4_163 rfl (pc' := 165) rfl ?_
                refine s_iconst H d4_165 (z := (1 : Int32)) (by decide) (pc' := 166) rfl ?_
                obtain ⟨l11, e_l11, hm⟩ := own_bnd hm
                refine s_zastore H d4_166 (i := 0) rfl (pt_ok e_l11).1 (jn := (a5).toNatClampNeg) rfl (pt_ok e_l11).2.1 (x := (1 : Int32)) (by decide) (pc' := 167) rfl ?_
                rw [(pt_ok e_l11).2.2]
                show Go Z k 0 0 ((da, ArI Z .boolean l11) :: (pa, ArI Z .int p) :: (ra, ArI Z .int r) :: (la, ArI Z .int l) :: (ta, Obj Z "com/example/rekha/rekha/ActiveEdges" [("com/example/rekha/rekha/ActiveEdges", "nil", "I", (.int nl)), ("com/example/rekha/rekha/ActiveEdges", "left", "[I", (.ref la)), ("com/example/rekha/rekha/ActiveEdges", "right", "[I", (.ref ra)), ("com/example/rekha/rekha/ActiveEdges", "parent", "[I", (.ref pa)), ("com/example/rekha/rekha/ActiveEdges", "red", "[Z", (.ref da)), ("com/example/rekha/rekha/ActiveEdges", "root", "I", (.int root))]) :: F) 167 #[.val (.ref ta), .val (.int s1), .val (.int node), .val (.int a4), .val (.int a5), .val (.int (0 : Int32)), .val (.int a7)] []
                refine s_aloadn H d4_167 rfl rfl (pc' := 168) rfl ?_
                refine s_iload H d4_168 rfl (pc' := 170) rfl ?_
                refine s_iload H d4_170 rfl (pc' := 172) rfl ?_
                refine s_if H d4_172 (py := 179) (pc' := 175) z_ne (by decide) rfl (fun c172 => ?_) (fun c172 => ?_)
                · exact absurd c172 (by decide)
                · refine s_iconst H d4_175 (z := (1 : Int32)) (by decide) (pc' := 176) rfl ?_
                  refine s_goto H d4_176 (pc' := 180) (by decide) ?_
                  obtain ⟨t12, e_t12, hm⟩ := own_bnd hm
                  refine s_priv H (met_ro1 H.tb ta la ra pa da a5 e_t12) d4_180 (i := 4) rfl (mem (i := 37) rfl) (mem (i := 39) rfl) (mem (i := 27) rfl) rfl (mem (i := 38) rfl) (mem (i := 4) rfl) (mem (i := 40) rfl) (by decide) pd_6 rfl (rest := []) rfl rfl (by decide) (Nat.le_of_ble_eq_true rfl) (cn' := 0) (sn' := 0) rfl rfl (by decide) (by decide) (pc' := 183) rfl (fun v0 M0 hq => ?_)
                  obtain ⟨rfl, hm0⟩ := hq
                  subst M0
                  show Go Z k 0 0 ((da, ArI Z .boolean t12.d) :: (pa, ArI Z .int t12.p) :: (ra, ArI Z .int t12.r) :: (la, ArI Z .int t12.l) :: (ta, Obj Z "com/example/rekha/rekha/ActiveEdges" [("com/example/rekha/rekha/ActiveEdges", "nil", "I", (.int nl)), ("com/example/rekha/rekha/ActiveEdges", "left", "[I", (.ref la)), ("com/example/rekha/rekha/ActiveEdges", "right", "[I", (.ref ra)), ("com/example/rekha/rekha/ActiveEdges", "parent", "[I", (.ref pa)), ("com/example/rekha/rekha/ActiveEdges", "red", "[Z", (.ref da)), ("com/example/rekha/rekha/ActiveEdges", "root", "I", (.int t12.root))]) :: F) 183 #[.val (.ref ta), .val (.int s1), .val (.int node), .val (.int a4), .val (.int a5), .val (.int (0 : Int32)), .val (.int a7)] []
                  refine s_goto H d4_183 (pc' := 2) (by decide) ?_
                  exact ih _ _ _ _ _ _ _ _ _ _ _ hm
              · replace hm := own_ifn c133 hm
                refine s_iloadn H d4_136 rfl (pc' := 137) rfl ?_
                refine s_istoren H d4_137 (L' := fun z => #[.val (.ref ta), .val (.int s1), .val (.int z), .val (.int a4), .val (.int a5), .val (.int (0 : Int32)), .val (.int a7)]) (fun _ => rfl) (pc' := 138) rfl (fun z0 hz => ?_)
                subst z0
                refine s_aloadn H d4_138 rfl rfl (pc' := 139) rfl ?_
                refine s_iloadn H d4_139 rfl (pc' := 140) rfl ?_
                refine s_iload H d4_140 rfl (pc' := 142) rfl ?_
                obtain ⟨t13, e_t13, hm⟩ := own_bnd hm
                refine s_priv H (met_ro0 H.tb ta la ra pa da a4 e_t13) d4_142 (i := 4) rfl (mem (i := 37) rfl) (mem (i := 39) rfl) (mem (i := 27) rfl) rfl (mem (i := 38) rfl) (mem (i := 4) rfl) (mem (i := 40) rfl) (by decide) pd_6 rfl (rest := []) rfl rfl (by decide) (Nat.le_of_ble_eq_true rfl) (cn' := 0) (sn' := 0) rfl rfl (by decide) (by decide) (pc' := 145) rfl (fun v0 M0 hq => ?_)
                obtain ⟨rfl, hm0⟩ := hq
                subst M0
                show Go Z k 0 0 ((da, ArI Z .boolean t13.d) :: (pa, ArI Z .int t13.p) :: (ra, ArI Z .int t13.r) :: (la, ArI Z .int t13.l) :: (ta, Obj Z "com/example/rekha/rekha/ActiveEdges" [("com/example/rekha/rekha/ActiveEdges", "nil", "I", (.int nl)), ("com/example/rekha/rekha/ActiveEdges", "left", "[I", (.ref la)), ("com/example/rekha/rekha/ActiveEdges", "right", "[I", (.ref ra)), ("com/example/rekha/rekha/ActiveEdges", "parent", "[I", (.ref pa)), ("com/example/rekha/rekha/ActiveEdges", "red", "[Z", (.ref da)), ("com/example/rekha/rekha/ActiveEdges", "root", "I", (.int t13.root))]) :: F) 145 #[.val (.ref ta), .val (.int s1), .val (.int a4), .val (.int a4), .val (.int a5), .val (.int (0 : Int32)), .val (.int a7)] []
                refine s_aloadn H d4_145 rfl rfl (pc' := 146) rfl ?_
                refine s_getf H d4_146 (mem (i := 17) rfl) (i := 4) (j := 3) rfl rfl (pc' := 149) rfl ?_
                refine s_iloadn H d4_149 rfl (pc' := 150) rfl ?_
                obtain ⟨a14, e_a14, hm⟩ := own_bnd hm
                refine s_iaload H d4_150 (i := 1) rfl (x := a14) (gt_ok e_a14).1 (jn := (a4).toNatClampNeg) rfl (gt_ok e_a14).2 (pc' := 151) rfl ?_
                refine s_istoren H d4_151 (L' := fun z => #[.val (.ref ta), .val (.int s1), .val (.int a4), .val (.int z), .val (.int a5), .val (.int (0 : Int32)), .val (.int a7)]) (fun _ => rfl) (pc' := 152) rfl (fun z0 hz => ?_)
                subst z0
                refine s_aloadn H d4_152 rfl rfl (pc' := 153) rfl ?_
                refine s_getf H d4_153 (mem (i := 20) rfl) (i := 4) (j := 4) rfl rfl (pc' := 156) rfl ?_
                refine s_iloadn H d4_156 rfl (pc' := 157) rfl ?_
                refine s_iconst H d4_157 (z := (0 : Int32)) (by decide) (pc' := 158) rfl ?_
                obtain ⟨l15, e_l15, hm⟩ := own_bnd hm
                refine s_zastore H d4_158 (i := 0) rfl (pt_ok e_l15).1 (jn := (a14).toNatClampNeg) rfl (pt_ok e_l15).2.1 (x := (0 : Int32)) (by decide) (pc' := 159) rfl ?_
                rw [(pt_ok e_l15).2.2]
                show Go Z k 0 0 ((da, ArI Z .boolean l15) :: (pa, ArI Z .int t13.p) :: (ra, ArI Z .int t13.r) :: (la, ArI Z .int t13.l) :: (ta, Obj Z "com/example/rekha/rekha/ActiveEdges" [("com/example/rekha/rekha/ActiveEdges", "nil", "I", (.int nl)), ("com/example/rekha/rekha/ActiveEdges", "left", "[I", (.ref la)), ("com/example/rekha/rekha/ActiveEdges", "right", "[I", (.ref ra)), ("com/example/rekha/rekha/ActiveEdges", "parent", "[I", (.ref pa)), ("com/example/rekha/rekha/ActiveEdges", "red", "[Z", (.ref da)), ("com/example/rekha/rekha/ActiveEdges", "root", "I", (.int t13.root))]) :: F) 159 #[.val (.ref ta), .val (.int s1), .val (.int a4), .val (.int a14), .val (.int a5), .val (.int (0 : Int32)), .val (.int a7)] []
                refine s_aloadn H d4_159 rfl rfl (pc' := 160) rfl ?_
                refine s_getf H d4_160 (mem (i := 20) rfl) (i := 4) (j := 4) rfl rfl (pc' := 163) rfl ?_
                refine s_iload H d4_163 rfl (pc' := 165) rfl ?_
                refine s_iconst H d4_165 (z := (1 : Int32)) (by decide) (pc' := 166) rfl ?_
                obtain ⟨l16, e_l16, hm⟩ := own_bnd hm
                refine s_zastore H d4_166 (i := 0) rfl (pt_ok e_l16).1 (jn := (a5).toNatClampNeg) rfl (pt_ok e_l16).2.1 (x := (1 : Int32)) (by decide) (pc' := 167) rfl ?_
                rw [(pt_ok e_l16).2.2]
                show Go Z k 0 0 ((da, ArI Z .boolean l16) :: (pa, ArI Z .int t13.p) :: (ra, ArI Z .int t13.r) :: (la, ArI Z .int t13.l) :: (ta, Obj Z "com/example/rekha/rekha/ActiveEdges" [("com/example/rekha/rekha/ActiveEdges", "nil", "I", (.int nl)), ("com/example/rekha/rekha/ActiveEdges", "left", "[I", (.ref la)), ("com/example/rekha/rekha/ActiveEdges", "right", "[I", (.ref ra)), ("com/example/rekha/rekha/ActiveEdges", "parent", "[I", (.ref pa)), ("com/example/rekha/rekha/ActiveEdges", "red", "[Z", (.ref da)), ("com/example/rekha/rekha/ActiveEdges", "root", "I", (.int t13.root))]) :: F) 167 #[.val (.ref ta), .val (.int s1), .val (.int a4), .val (.int a14), .val (.int a5), .val (.int (0 : Int32)), .val (.int a7)] []
                refine s_aloadn H d4_167 rfl rfl (pc' := 168) rfl ?_
                refine s_iload H d4_168 rfl (pc' := 170) rfl ?_
                refine s_iload H d4_170 rfl (pc' := 172) rfl ?_
                refine s_if H d4_172 (py := 179) (pc' := 175) z_ne (by decide) rfl (fun c172 => ?_) (fun c172 => ?_)
                · exact absurd c172 (by decide)
                · refine s_iconst H d4_175 (z := (1 : Int32)) (by decide) (pc' := 176) rfl ?_
                  refine s_goto H d4_176 (pc' := 180) (by decide) ?_
                  obtain ⟨t17, e_t17, hm⟩ := own_bnd hm
                  refine s_priv H (met_ro1 H.tb ta la ra pa da a5 e_t17) d4_180 (i := 4) rfl (mem (i := 37) rfl) (mem (i := 39) rfl) (mem (i := 27) rfl) rfl (mem (i := 38) rfl) (mem (i := 4) rfl) (mem (i := 40) rfl) (by decide) pd_6 rfl (rest := []) rfl rfl (by decide) (Nat.le_of_ble_eq_true rfl) (cn' := 0) (sn' := 0) rfl rfl (by decide) (by decide) (pc' := 183) rfl (fun v0 M0 hq => ?_)
                  obtain ⟨rfl, hm0⟩ := hq
                  subst M0
                  show Go Z k 0 0 ((da, ArI Z .boolean t17.d) :: (pa, ArI Z .int t17.p) :: (ra, ArI Z .int t17.r) :: (la, ArI Z .int t17.l) :: (ta, Obj Z "com/example/rekha/rekha/ActiveEdges" [("com/example/rekha/rekha/ActiveEdges", "nil", "I", (.int nl)), ("com/example/rekha/rekha/ActiveEdges", "left", "[I", (.ref la)), ("com/example/rekha/rekha/ActiveEdges", "right", "[I", (.ref ra)), ("com/example/rekha/rekha/ActiveEdges", "parent", "[I", (.ref pa)), ("com/example/rekha/rekha/ActiveEdges", "red", "[Z", (.ref da)), ("com/example/rekha/rekha/ActiveEdges", "root", "I", (.int t17.root))]) :: F) 183 #[.val (.ref ta), .val (.int s1), .val (.int a4), .val (.int a14), .val (.int a5), .val (.int (0 : Int32)), .val (.int a7)] []
                  refine s_goto H d4_183 (pc' := 2) (by decide) ?_
                  exact ih _ _ _ _ _ _ _ _ _ _ _ hm
            · exact absurd c115 (by decide)
          · replace hm := own_ifn c80 hm
            refine s_aloadn H d4_83 rfl rfl (pc' := 84) rfl ?_
            refine s_getf H d4_84 (mem (i := 20) rfl) (i := 4) (j := 4) rfl rfl (pc' := 87) rfl ?_
            refine s_iloadn H d4_87 rfl (pc' := 88) rfl ?_
            refine s_iconst H d4_88 (z := (0 : Int32)) (by decide) (pc' := 89) rfl ?_
            obtain ⟨l18, e_l18, hm⟩ := own_bnd hm
            refine s_zastore H d4_89 (i := 0) rfl (pt_ok e_l18).1 (jn := (a4).toNatClampNeg) rfl (pt_ok e_l18).2.1 (x := (0 : Int32)) (by decide) (pc' := 90) rfl ?_
            rw [(pt_ok e_l18).2.2]
            show Go Z k 0 0 ((da, ArI Z .boolean l18) :: (pa, ArI Z .int p) :: (ra, ArI Z .int r) :: (la, ArI Z .int l) :: (ta, Obj Z "com/example/rekha/rekha/ActiveEdges" [("com/example/rekha/rekha/ActiveEdges", "nil", "I", (.int nl)), ("com/example/rekha/rekha/ActiveEdges", "left", "[I", (.ref la)), ("com/example/rekha/rekha/ActiveEdges", "right", "[I", (.ref ra)), ("com/example/rekha/rekha/ActiveEdges", "parent", "[I", (.ref pa)), ("com/example/rekha/rekha/ActiveEdges", "red", "[Z", (.ref da)), ("com/example/rekha/rekha/ActiveEdges", "root", "I", (.int root))]) :: F) 90 #[.val (.ref ta), .val (.int s1), .val (.int node), .val (.int a4), .val (.int a5), .val (.int (0 : Int32)), .val (.int a7)] []
            refine s_aloadn H d4_90 rfl rfl (pc' := 91) rfl ?_
            refine s_getf H d4_91 (mem (i := 20) rfl) (i := 4) (j := 4) rfl rfl (pc' := 94) rfl ?_
            refine s_iload H d4_94 rfl (pc' := 96) rfl ?_
            refine s_iconst H d4_96 (z := (0 : Int32)) (by decide) (pc' := 97) rfl ?_
            obtain ⟨l19, e_l19, hm⟩ := own_bnd hm
            refine s_zastore H d4_97 (i := 0) rfl (pt_ok e_l19).1 (jn := (a7).toNatClampNeg) rfl (pt_ok e_l19).2.1 (x := (0 : Int32)) (by decide) (pc' := 98) rfl ?_
            rw [(pt_ok e_l19).2.2]
            show Go Z k 0 0 ((da, ArI Z .boolean l19) :: (pa, ArI Z .int p) :: (ra, ArI Z .int r) :: (la, ArI Z .int l) :: (ta, Obj Z "com/example/rekha/rekha/ActiveEdges" [("com/example/rekha/rekha/ActiveEdges", "nil", "I", (.int nl)), ("com/example/rekha/rekha/ActiveEdges", "left", "[I", (.ref la)), ("com/example/rekha/rekha/ActiveEdges", "right", "[I", (.ref ra)), ("com/example/rekha/rekha/ActiveEdges", "parent", "[I", (.ref pa)), ("com/example/rekha/rekha/ActiveEdges", "red", "[Z", (.ref da)), ("com/example/rekha/rekha/ActiveEdges", "root", "I", (.int root))]) :: F) 98 #[.val (.ref ta), .val (.int s1), .val (.int node), .val (.int a4), .val (.int a5), .val (.int (0 : Int32)), .val (.int a7)] []
            refine s_aloadn H d4_98 rfl rfl (pc' := 99) rfl ?_
            refine s_getf H d4_99 (mem (i := 20) rfl) (i := 4) (j := 4) rfl rfl (pc' := 102) rfl ?_
            refine s_iload H d4_102 rfl (pc' := 104) rfl ?_
            refine s_iconst H d4_104 (z := (1 : Int32)) (by decide) (pc' := 105) rfl ?_
            obtain ⟨l20, e_l20, hm⟩ := own_bnd hm
            refine s_zastore H d4_105 (i := 0) rfl (pt_ok e_l20).1 (jn := (a5).toNatClampNeg) rfl (pt_ok e_l20).2.1 (x := (1 : Int32)) (by decide) (pc' := 106) rfl ?_
            rw [(pt_ok e_l20).2.2]
            show Go Z k 0 0 ((da, ArI Z .boolean l20) :: (pa, ArI Z .int p) :: (ra, ArI Z .int r) :: (la, ArI Z .int l) :: (ta, Obj Z "com/example/rekha/rekha/ActiveEdges" [("com/example/rekha/rekha/ActiveEdges", "nil", "I", (.int nl)), ("com/example/rekha/rekha/ActiveEdges", "left", "[I", (.ref la)), ("com/example/rekha/rekha/ActiveEdges", "right", "[I", (.ref ra)), ("com/example/rekha/rekha/ActiveEdges", "parent", "[I", (.ref pa)), ("com/example/rekha/rekha/ActiveEdges", "red", "[Z", (.ref da)), ("com/example/rekha/rekha/ActiveEdges", "root", "I", (.int root))]) :: F) 106 #[.val (.ref ta), .val (.int s1), .val (.int node), .val (.int a4), .val (.int a5), .val (.int (0 : Int32)), .val (.int a7)] []
            refine s_iload H d4_106 rfl (pc' := 108) rfl ?_
            refine s_istoren H d4_108 (L' := fun z => #[.val (.ref ta), .val (.int s1), .val (.int z), .val (.int a4), .val (.int a5), .val (.int (0 : Int32)), .val (.int a7)]) (fun _ => rfl) (pc' := 109) rfl (fun z0 hz => ?_)
            subst z0
            refine s_goto H d4_109 (pc' := 183) (by decide) ?_
            refine s_goto H d4_183 (pc' := 2) (by decide) ?_
            exact ih _ _ _ _ _ _ _ _ _ _ _ hm
        · exact absurd c51 (by decide)
      · replace hm := own_ifn c39 hm
        refine s_iconst H d4_42 (z := (1 : Int32)) (by decide) (pc' := 43) rfl ?_
        refine s_goto H d4_43 (pc' := 47) (by decide) ?_
        refine s_istore H d4_47 (L' := fun z => #[.val (.ref ta), .val (.int s1), .val (.int node), .val (.int a4), .val (.int a5), .val (.int z), .val (.int s6)]) (fun _ => rfl) (pc' := 49) rfl (fun z0 hz => ?_)
        subst z0
        refine s_iload H d4_49 rfl (pc' := 51) rfl ?_
        refine s_if H d4_51 (py := 64) (pc' := 54) z_eq (by decide) rfl (fun c51 => ?_) (fun c51 => ?_)
        · exact absurd c51 (by decide)
        · refine s_aloadn H d4_54 rfl rfl (pc' := 55) rfl ?_
          refine s_getf H d4_55 (mem (i := 15) rfl) (i := 4) (j := 2) rfl rfl (pc' := 58) rfl ?_
          refine s_iload H d4_58 rfl (pc' := 60) rfl ?_
          obtain ⟨a21, e_a21, hm⟩ := own_bnd hm
          refine s_iaload H d4_60 (i := 2) rfl (x := a21) (gt_ok e_a21).1 (jn := (a5).toNatClampNeg) rfl (gt_ok e_a21).2 (pc' := 61) rfl ?_
          refine s_goto H d4_61 (pc' := 71) (by decide) ?_
          refine s_istore H d4_71 (L' := fun z => #[.val (.ref ta), .val (.int s1), .val (.int node), .val (.int a4), .val (.int a5), .val (.int (1 : Int32)), .val (.int z)]) (fun _ => rfl) (pc' := 73) rfl (fun z0 hz => ?_)
          subst z0
          refine s_aloadn H d4_73 rfl rfl (pc' := 74) rfl ?_
          refine s_getf H d4_74 (mem (i := 20) rfl) (i := 4) (j := 4) rfl rfl (pc' := 77) rfl ?_
          refine s_iload H d4_77 rfl (pc' := 79) rfl ?_
          obtain ⟨a22, e_a22, hm⟩ := own_bnd hm
          refine s_zaload H d4_79 (i := 0) rfl (x := a22) (gt_ok e_a22).1 (jn := (a21).toNatClampNeg) rfl (gt_ok e_a22).2 (pc' := 80) rfl ?_
          refine s_if H d4_80 (py := 112) (pc' := 83) z_eq (by decide) rfl (fun c80 => ?_) (fun c80 => ?_)
          · replace hm := own_ifp c80 hm
            refine s_iloadn H d4_112 rfl (pc' := 113) rfl ?_
            refine s_iload H d4_113 rfl (pc' := 115) rfl ?_
            refine s_if H d4_115 (py := 127) (pc' := 118) z_eq (by decide) rfl (fun c115 => ?_) (fun c115 => ?_)
            · exact absurd c115 (by decide)
            · refine s_aloadn H d4_118 rfl rfl (pc' := 119) rfl ?_
              refine s_getf H d4_119 (mem (i := 15) rfl) (i := 4) (j := 2) rfl rfl (pc' := 122) rfl ?_
              refine s_iloadn H d4_122 rfl (pc' := 123) rfl ?_
              obtain ⟨a23, e_a23, hm⟩ := own_bnd hm
              refine s_iaload H d4_123 (i := 2) rfl (x := a23) (gt_ok e_a23).1 (jn := (a4).toNatClampNeg) rfl (gt_ok e_a23).2 (pc' := 124) rfl ?_
              refine s_goto H d4_124 (pc' := 133) (by decide) ?_
              refine s_icmp H d4_133 (py := 152) (pc' := 136) q_ne (by decide) rfl (fun c133 => ?_) (fun c133 => ?_)
              · replace hm := own_ifp c133 hm
                refine s_aloadn H d4_152 rfl rfl (pc' := 153) rfl ?_
                refine s_getf H d4_153 (mem (i := 20) rfl) (i := 4) (j := 4) rfl rfl (pc' := 156) rfl ?_
                refine s_iloadn H d4_156 rfl (pc' := 157) rfl ?_
                refine s_iconst H d4_157 (z := (0 : Int32)) (by decide) (pc' := 158) rfl ?_
                obtain ⟨l24, e_l24, hm⟩ := own_bnd hm
                refine s_zastore H d4_158 (i := 0) rfl (pt_ok e_l24).1 (jn := (a4).toNatClampNeg) rfl (pt_ok e_l24).2.1 (x := (0 : Int32)) (by decide) (pc' := 159) rfl ?_
                rw [(pt_ok e_l24).2.2]
                show Go Z k 0 0 ((da, ArI Z .boolean l24) :: (pa, ArI Z .int p) :: (ra, ArI Z .int r) :: (la, ArI Z .int l) :: (ta, Obj Z "com/example/rekha/rekha/ActiveEdges" [("com/example/rekha/rekha/ActiveEdges", "nil", "I", (.int nl)), ("com/example/rekha/rekha/ActiveEdges", "left", "[I", (.ref la)), ("com/example/rekha/rekha/ActiveEdges", "right", "[I", (.ref ra)), ("com/example/rekha/rekha/ActiveEdges", "parent", "[I", (.ref pa)), ("com/example/rekha/rekha/ActiveEdges", "red", "[Z", (.ref da)), ("com/example/rekha/rekha/ActiveEdges", "root", "I", (.int root))]) :: F) 159 #[.val (.ref ta), .val (.int s1), .val (.int node), .val (.int a4), .val (.int a5), .val (.int (1 : Int32)), .val (.int a21)] []
                refine s_aloadn H d4_159 rfl rfl (pc' := 160) rfl ?_
                refine s_getf H d4_160 (mem (i := 20) rfl) (i := 4) (j := 4) rfl rfl (pc' := 163) rfl ?_
                refine s_iload H d4_163 rfl (pc' := 165) rfl ?_
                refine s_iconst H d4_165 (z := (1 : Int32)) (by decide) (pc' := 166) rfl ?_
                obtain ⟨l25, e_l25, hm⟩ := own_bnd hm
                refine s_zastore H d4_166 (i := 0) rfl (pt_ok e_l25).1 (jn := (a5).toNatClampNeg) rfl (pt_ok e_l25).2.1 (x := (1 : Int32)) (by decide) (pc' := 167) rfl ?_
                rw [(pt_ok e_l25).2.2]
                show Go Z k 0 0 ((da, ArI Z .boolean l25) :: (pa, ArI Z .int p) :: (ra, ArI Z .int r) :: (la, ArI Z .int l) :: (ta, Obj Z "com/example/rekha/rekha/ActiveEdges" [("com/example/rekha/rekha/ActiveEdges", "nil", "I", (.int nl)), ("com/example/rekha/rekha/ActiveEdges", "left", "[I", (.ref la)), ("com/example/rekha/rekha/ActiveEdges", "right", "[I", (.ref ra)), ("com/example/rekha/rekha/ActiveEdges", "parent", "[I", (.ref pa)), ("com/example/rekha/rekha/ActiveEdges", "red", "[Z", (.ref da)), ("com/example/rekha/rekha/ActiveEdges", "root", "I", (.int root))]) :: F) 167 #[.val (.ref ta), .val (.int s1), .val (.int node), .val (.int a4), .val (.int a5), .val (.int (1 : Int32)), .val (.int a21)] []
                refine s_aloadn H d4_167 rfl rfl (pc' := 168) rfl ?_
                refine s_iload H d4_168 rfl (pc' := 170) rfl ?_
                refine s_iload H d4_170 rfl (pc' := 172) rfl ?_
                refine s_if H d4_172 (py := 179) (pc' := 175) z_ne (by decide) rfl (fun c172 => ?_) (fun c172 => ?_)
                · refine s_iconst H d4_179 (z := (0 : Int32)) (by decide) (pc' := 180) rfl ?_
                  obtain ⟨t26, e_t26, hm⟩ := own_bnd hm
                  refine s_priv H (met_ro0 H.tb ta la ra pa da a5 e_t26) d4_180 (i := 4) rfl (mem (i := 37) rfl) (mem (i := 39) rfl) (mem (i := 27) rfl) rfl (mem (i := 38) rfl) (mem (i := 4) rfl) (mem (i := 40) rfl) (by decide) pd_6 rfl (rest := []) rfl rfl (by decide) (Nat.le_of_ble_eq_true rfl) (cn' := 0) (sn' := 0) rfl rfl (by decide) (by decide) (pc' := 183) rfl (fun v0 M0 hq => ?_)
                  obtain ⟨rfl, hm0⟩ := hq
                  subst M0
                  show Go Z k 0 0 ((da, ArI Z .boolean t26.d) :: (pa, ArI Z .int t26.p) :: (ra, ArI Z .int t26.r) :: (la, ArI Z .int t26.l) :: (ta, Obj Z "com/example/rekha/rekha/ActiveEdges" [("com/example/rekha/rekha/ActiveEdges", "nil", "I", (.int nl)), ("com/example/rekha/rekha/ActiveEdges", "left", "[I", (.ref la)), ("com/example/rekha/rekha/ActiveEdges", "right", "[I", (.ref ra)), ("com/example/rekha/rekha/ActiveEdges", "parent", "[I", (.ref pa)), ("com/example/rekha/rekha/ActiveEdges", "red", "[Z", (.ref da)), ("com/example/rekha/rekha/ActiveEdges", "root", "I", (.int t26.root))]) :: F) 183 #[.val (.ref ta), .val (.int s1), .val (.int node), .val (.int a4), .val (.int a5), .val (.int (1 : Int32)), .val (.int a21)] []
                  refine s_goto H d4_183 (pc' := 2) (by decide) ?_
                  exact ih _ _ _ _ _ _ _ _ _ _ _ hm
                · exact absurd c172 (by decide)
              · replace hm := own_ifn c133 hm
                refine s_iloadn H d4_136 rfl (pc' := 137) rfl ?_
                refine s_istoren H d4_137 (L' := fun z => #[.val (.ref ta), .val (.int s1), .val (.int z), .val (.int a4), .val (.int a5), .val (.int (1 : Int32)), .val (.int a21)]) (fun _ => rfl) (pc' := 138) rfl (fun z0 hz => ?_)
                subst z0
                refine s_aloadn H d4_138 rfl rfl (pc' := 139) rfl ?_
                refine s_iloadn H d4_139 rfl (pc' := 140) rfl ?_
                refine s_iload H d4_140 rfl (pc' := 142) rfl ?_
                obtain ⟨t27, e_t27, hm⟩ := own_bnd hm
                refine s_priv H (met_ro1 H.tb ta la ra pa da a4 e_t27) d4_142 (i := 4) rfl (mem (i := 37) rfl) (mem (i := 39) rfl) (mem (i := 27) rfl) rfl (mem (i := 38) rfl) (mem (i := 4) rfl) (mem (i := 40) rfl) (by decide) pd_6 rfl (rest := []) rfl rfl (by decide) (Nat.le_of_ble_eq_true rfl) (cn' := 0) (sn' := 0) rfl rfl (by decide) (by decide) (pc' := 145) rfl (fun v0 M0 hq => ?_)
                obtain ⟨rfl, hm0⟩ := hq
                subst M0
                show Go Z k 0 0 ((da, ArI Z .boolean t27.d) :: (pa, ArI Z .int t27.p) :: (ra, ArI Z .int t27.r) :: (la, ArI Z .int t27.l) :: (ta, Obj Z "com/example/rekha/rekha/ActiveEdges" [("com/example/rekha/rekha/ActiveEdges", "nil", "I", (.int nl)), ("com/example/rekha/rekha/ActiveEdges", "left", "[I", (.ref la)), ("com/example/rekha/rekha/ActiveEdges", "right", "[I", (.ref ra)), ("com/example/rekha/rekha/ActiveEdges", "parent", "[I", (.ref pa)), ("com/example/rekha/rekha/ActiveEdges", "red", "[Z", (.ref da)), ("com/example/rekha/rekha/ActiveEdges", "root", "I", (.int t27.root))]) :: F) 145 #[.val (.ref ta), .val (.int s1), .val (.int a4), .val (.int a4), .val (.int a5), .val (.int (1 : Int32)), .val (.int a21)] []
                refine s_aloadn H d4_145 rfl rfl (pc' := 146) rfl ?_
                refine s_getf H d4_146 (mem (i := 17) rfl) (i := 4) (j := 3) rfl rfl (pc' := 149) rfl ?_
                refine s_iloadn H d4_149 rfl (pc' := 150) rfl ?_
                obtain ⟨a28, e_a28, hm⟩ := own_bnd hm
                refine s_iaload H d4_150 (i := 1) rfl (x := a28) (gt_ok e_a28).1 (jn := (a4).toNatClampNeg) rfl (gt_ok e_a28).2 (pc' := 151) rfl ?_
                refine s_istoren H d4_151 (L' := fun z => #[.val (.ref ta), .val (.int s1), .val (.int a4), .val (.int z), .val (.int a5), .val (.int (1 : Int32)), .val (.int a21)]) (fun _ => rfl) (pc' := 152) rfl (fun z0 hz => ?_)
                subst z0
                refine s_aloadn H d4_152 rfl rfl (pc' := 153) rfl ?_
                refine s_getf H d4_153 (mem (i := 20) rfl) (i := 4) (j := 4) rfl rfl (pc' := 156) rfl ?_
                refine s_iloadn H d4_156 rfl (pc' := 157) rfl ?_
                refine s_iconst H d4_157 (z := (0 : Int32)) (by decide) (pc' := 158) rfl ?_
                obtain ⟨l29, e_l29, hm⟩ := own_bnd hm
                refine s_zastore H d4_158 (i := 0) rfl (pt_ok e_l29).1 (jn := (a28).toNatClampNeg) rfl (pt_ok e_l29).2.1 (x := (0 : Int32)) (by decide) (pc' := 159) rfl ?_
                rw [(pt_ok e_l29).2.2]
                show Go Z k 0 0 ((da, ArI Z .boolean l29) :: (pa, ArI Z .int t27.p) :: (ra, ArI Z .int t27.r) :: (la, ArI Z .int t27.l) :: (ta, Obj Z "com/example/rekha/rekha/ActiveEdges" [("com/example/rekha/rekha/ActiveEdges", "nil", "I", (.int nl)), ("com/example/rekha/rekha/ActiveEdges", "left", "[I", (.ref la)), ("com/example/rekha/rekha/ActiveEdges", "right", "[I", (.ref ra)), ("com/example/rekha/rekha/ActiveEdges", "parent", "[I", (.ref pa)), ("com/example/rekha/rekha/ActiveEdges", "red", "[Z", (.ref da)), ("com/example/rekha/rekha/ActiveEdges", "root", "I", (.int t27.root))]) :: F) 159 #[.val (.ref ta), .val (.int s1), .val (.int a4), .val (.int a28), .val (.int a5), .val (.int (1 : Int32)), .val (.int a21)] []
                refine s_aloadn H d4_159 rfl rfl (pc' := 160) rfl ?_
                refine s_getf H d4_160 (mem (i := 20) rfl) (i := 4) (j := 4) rfl rfl (pc' := 163) rfl ?_
                refine s_iload H d4_163 rfl (pc' := 165) rfl ?_
                refine s_iconst H d4_165 (z := (1 : Int32)) (by decide) (pc' := 166) rfl ?_
                obtain ⟨l30, e_l30, hm⟩ := own_bnd hm
                refine s_zastore H d4_166 (i := 0) rfl (pt_ok e_l30).1 (jn := (a5).toNatClampNeg) rfl (pt_ok e_l30).2.1 (x := (1 : Int32)) (by decide) (pc' := 167) rfl ?_
                rw [(pt_ok e_l30).2.2]
                show Go Z k 0 0 ((da, ArI Z .boolean l30) :: (pa, ArI Z .int t27.p) :: (ra, ArI Z .int t27.r) :: (la, ArI Z .int t27.l) :: (ta, Obj Z "com/example/rekha/rekha/ActiveEdges" [("com/example/rekha/rekha/ActiveEdges", "nil", "I", (.int nl)), ("com/example/rekha/rekha/ActiveEdges", "left", "[I", (.ref la)), ("com/example/rekha/rekha/ActiveEdges", "right", "[I", (.ref ra)), ("com/example/rekha/rekha/ActiveEdges", "parent", "[I", (.ref pa)), ("com/example/rekha/rekha/ActiveEdges", "red", "[Z", (.ref da)), ("com/example/rekha/rekha/ActiveEdges", "root", "I", (.int t27.root))]) :: F) 167 #[.val (.ref ta), .val (.int s1), .val (.int a4), .val (.int a28), .val (.int a5), .val (.int (1 : Int32)), .val (.int a21)] []
                refine s_aloadn H d4_167 rfl rfl (pc' := 168) rfl ?_
                refine s_iload H d4_168 rfl (pc' := 170) rfl ?_
                refine s_iload H d4_170 rfl (pc' := 172) rfl ?_
                refine s_if H d4_172 (py := 179) (pc' := 175) z_ne (by decide) rfl (fun c172 => ?_) (fun c172 => ?_)
                · refine s_iconst H d4_179 (z := (0 : Int32)) (by decide) (pc' := 180) rfl ?_
                  obtain ⟨t31, e_t31, hm⟩ := own_bnd hm
                  refine s_priv H (met_ro0 H.tb ta la ra pa da a5 e_t31) d4_180 (i := 4) rfl (mem (i := 37) rfl) (mem (i := 39) rfl) (mem (i := 27) rfl) rfl (mem (i := 38) rfl) (mem (i := 4) rfl) (mem (i := 40) rfl) (by decide) pd_6 rfl (rest := []) rfl rfl (by decide) (Nat.le_of_ble_eq_true rfl) (cn' := 0) (sn' := 0) rfl rfl (by decide) (by decide) (pc' := 183) rfl (fun v0 M0 hq => ?_)
                  obtain ⟨rfl, hm0⟩ := hq
                  subst M0
                  show Go Z k 0 0 ((da, ArI Z .boolean t31.d) :: (pa, ArI Z .int t31.p) :: (ra, ArI Z .int t31.r) :: (la, ArI Z .int t31.l) :: (ta, Obj Z "com/example/rekha/rekha/ActiveEdges" [("com/example/rekha/rekha/ActiveEdges", "nil", "I", (.int nl)), ("com/example/rekha/rekha/ActiveEdges", "left", "[I", (.ref la)), ("com/example/rekha/rekha/ActiveEdges", "right", "[I", (.ref ra)), ("com/example/rekha/rekha/ActiveEdges", "parent", "[I", (.ref pa)), ("com/example/rekha/rekha/ActiveEdges", "red", "[Z", (.ref da)), ("com/example/rekha/rekha/ActiveEdges", "root", "I", (.int t31.root))]) :: F) 183 #[.val (.ref ta), .val (.int s1), .val (.int a4), .val (.int a28), .val (.int a5), .val (.int (1 : Int32)), .val (.int a21)] []
                  refine s_goto H d4_183 (pc' := 2) (by decide) ?_
                  exact ih _ _ _ _ _ _ _ _ _ _ _ hm
                · exact absurd c172 (by decide)
          · replace hm := own_ifn c80 hm
            refine s_aloadn H d4_83 rfl rfl (pc' := 84) rfl ?_
            refine s_getf H d4_84 (mem (i := 20) rfl) (i := 4) (j := 4) rfl rfl (pc' := 87) rfl ?_
            refine s_iloadn H d4_87 rfl (pc' := 88) rfl ?_
            refine s_iconst H d4_88 (z := (0 : Int32)) (by decide) (pc' := 89) rfl ?_
            obtain ⟨l32, e_l32, hm⟩ := own_bnd hm
            refine s_zastore H d4_89 (i := 0) rfl (pt_ok e_l32).1 (jn := (a4).toNatClampNeg) rfl (pt_ok e_l32).2.1 (x := (0 : Int32)) (by decide) (pc' := 90) rfl ?_
            rw [(pt_ok e_l32).2.2]
            show Go Z k 0 0 ((da, ArI Z .boolean l32) :: (pa, ArI Z .int p) :: (ra, ArI Z .int r) :: (la, ArI Z .int l) :: (ta, Obj Z "com/example/rekha/rekha/ActiveEdges" [("com/example/rekha/rekha/ActiveEdges", "nil", "I", (.int nl)), ("com/example/rekha/rekha/ActiveEdges", "left", "[I", (.ref la)), ("com/example/rekha/rekha/ActiveEdges", "right", "[I", (.ref ra)), ("com/example/rekha/rekha/ActiveEdges", "parent", "[I", (.ref pa)), ("com/example/rekha/rekha/ActiveEdges", "red", "[Z", (.ref da)), ("com/example/rekha/rekha/ActiveEdges", "root", "I", (.int root))]) :: F) 90 #[.val (.ref ta), .val (.int s1), .val (.int node), .val (.int a4), .val (.int a5), .val (.int (1 : Int32)), .val (.int a21)] []
            refine s_aloadn H d4_90 rfl rfl (pc' := 91) rfl ?_
            refine s_getf H d4_91 (mem (i := 20) rfl) (i := 4) (j := 4) rfl rfl (pc' := 94) rfl ?_
            refine s_iload H d4_94 rfl (pc' := 96) rfl ?_
            refine s_iconst H d4_96 (z := (0 : Int32)) (by decide) (pc' := 97) rfl ?_
            obtain ⟨l33, e_l33, hm⟩ := own_bnd hm
            refine s_zastore H d4_97 (i := 0) rfl (pt_ok e_l33).1 (jn := (a21).toNatClampNeg) rfl (pt_ok e_l33).2.1 (x := (0 : Int32)) (by decide) (pc' := 98) rfl ?_
            rw [(pt_ok e_l33).2.2]
            show Go Z k 0 0 ((da, ArI Z .boolean l33) :: (pa, ArI Z .int p) :: (ra, ArI Z .int r) :: (la, ArI Z .int l) :: (ta, Obj Z "com/example/rekha/rekha/ActiveEdges" [("com/example/rekha/rekha/ActiveEdges", "nil", "I", (.int nl)), ("com/example/rekha/rekha/ActiveEdges", "left", "[I", (.ref la)), ("com/example/rekha/rekha/ActiveEdges", "right", "[I", (.ref ra)), ("com/example/rekha/rekha/ActiveEdges", "parent", "[I", (.ref pa)), ("com/example/rekha/rekha/ActiveEdges", "red", "[Z", (.ref da)), ("com/example/rekha/rekha/ActiveEdges", "root", "I", (.int root))]) :: F) 98 #[.val (.ref ta), .val (.int s1), .val (.int node), .val (.int a4), .val (.int a5), .val (.int (1 : Int32)), .val (.int a21)] []
            refine s_aloadn H d4_98 rfl rfl (pc' := 99) rfl ?_
            refine s_getf H d4_99 (mem (i := 20) rfl) (i := 4) (j := 4) rfl rfl (pc' := 102) rfl ?_
            refine s_iload H d4_102 rfl (pc' := 104) rfl ?_
            refine s_iconst H d4_104 (z := (1 : Int32)) (by decide) (pc' := 105) rfl ?_
            obtain ⟨l34, e_l34, hm⟩ := own_bnd hm
            refine s_zastore H d4_105 (i := 0) rfl (pt_ok e_l34).1 (jn := (a5).toNatClampNeg) rfl (pt_ok e_l34).2.1 (x := (1 : Int32)) (by decide) (pc' := 106) rfl ?_
            rw [(pt_ok e_l34).2.2]
            show Go Z k 0 0 ((da, ArI Z .boolean l34) :: (pa, ArI Z .int p) :: (ra, ArI Z .int r) :: (la, ArI Z .int l) :: (ta, Obj Z "com/example/rekha/rekha/ActiveEdges" [("com/example/rekha/rekha/ActiveEdges", "nil", "I", (.int nl)), ("com/example/rekha/rekha/ActiveEdges", "left", "[I", (.ref la)), ("com/example/rekha/rekha/ActiveEdges", "right", "[I", (.ref ra)), ("com/example/rekha/rekha/ActiveEdges", "parent", "[I", (.ref pa)), ("com/example/rekha/rekha/ActiveEdges", "red", "[Z", (.ref da)), ("com/example/rekha/rekha/ActiveEdges", "root", "I", (.int root))]) :: F) 106 #[.val (.ref ta), .val (.int s1), .val (.int node), .val (.int a4), .val (.int a5), .val (.int (1 : Int32)), .val (.int a21)] []
            refine s_iload H d4_106 rfl (pc' := 108) rfl ?_
            refine s_istoren H d4_108 (L' := fun z => #[.val (.ref ta), .val (.int s1), .val (.int z), .val (.int a4), .val (.int a5), .val (.int (1 : Int32)), .val (.int a21)]) (fun _ => rfl) (pc' := 109) rfl (fun z0 hz => ?_)
            subst z0
            refine s_goto H d4_109 (pc' := 183) (by decide) ?_
            refine s_goto H d4_183 (pc' := 2) (by decide) ?_
            exact ih _ _ _ _ _ _ _ _ _ _ _ hm
def m_ai (nl : Int32) (l r p d : List Int32) (root : Int32) (ins : Int32) : Option Tr := (gt p ins).bind fun a1 => (gt d a1).bind fun a2 => (if a2 = (0 : Int32) then ((pt d root (0 : Int32)).bind fun l3 => (some (Tr.mk l r p l3 root))) else ((gt p ins).bind fun a4 => (gt p a4).bind fun a5 => (gt l a5).bind fun a6 => (if ¬ a4 = a6 then ((gt l a5).bind fun a7 => (gt d a7).bind fun a8 => (if a8 = (0 : Int32) then ((gt l a4).bind fun a9 => (if ¬ ins = a9 then ((pt d a4 (0 : Int32)).bind fun l10 => (pt l10 a5 (1 : Int32)).bind fun l11 => (m_ro1 nl l r p l11 root a5).bind fun t12 => (m_ail nl 8 t12.l t12.r t12.p t12.d t12.root ins)) else ((m_ro0 nl l r p d root a4).bind fun t13 => (gt t13.p a4).bind fun a14 => (pt t13.d a14 (0 : Int32)).bind fun l15 => (pt l15 a5 (1 : Int32)).bind fun l16 => (m_ro1 nl t13.l t13.r t13.p l16 t13.root a5).bind fun t17 => (m_ail nl 8 t17.l t17.r t17.p t17.d t17.root a4)))) else ((pt d a4 (0 : Int32)).bind fun l18 => (pt l18 a7 (0 : Int32)).bind fun l19 => (pt l19 a5 (1 : Int32)).bind fun l20 => (m_ail nl 8 l r p l20 root a5)))) else ((gt r a5).bind fun a21 => (gt d a21).bind fun a22 => (if a22 = (0 : Int32) then ((gt r a4).bind fun a23 => (if ¬ ins = a23 then ((pt d a4 (0 : Int32)).bind fun l24 => (pt l24 a5 (1 : Int32)).bind fun l25 => (m_ro0 nl l r p l25 root a5).bind fun t26 => (m_ail nl 8 t26.l t26.r t26.p t26.d t26.root ins)) else ((m_ro1 nl l r p d root a4).bind fun t27 => (gt t27.p a4).bind fun a28 => (pt t27.d a28 (0 : Int32)).bind fun l29 => (pt l29 a5 (1 : Int32)).bind fun l30 => (m_ro0 nl t27.l t27.r t27.p l30 t27.root a5).bind fun t31 => (m_ail nl 8 t31.l t31.r t31.p t31.d t31.root a4)))) else ((pt d a4 (0 : Int32)).bind fun l32 => (pt l32 a21 (0 : Int32)).bind fun l33 => (pt l33 a5 (1 : Int32)).bind fun l34 => (m_ail nl 8 l r p l34 root a5)))))))
set_option maxRecDepth 65536 in
set_option maxHeartbeats 40000000 in
theorem met_ai {Z : State} (HT : Tb Z) {F : Hp} {nl root : Int32} {l r p d : List Int32} (ta la ra pa da : Addr) (ins : Int32) {o : Tr} (hm : m_ai nl l r p d root ins = some o) : Met Z y_4 prog_2_method_12_code 7 none ({ frames := 2, cells := 0, slots := 0, locals := 31 } : Room) [(.ref ta), (.int ins)] ((da, ArI Z .boolean d) :: (pa, ArI Z .int p) :: (ra, ArI Z .int r) :: (la, ArI Z .int l) :: (ta, Obj Z "com/example/rekha/rekha/ActiveEdges" [("com/example/rekha/rekha/ActiveEdges", "nil", "I", (.int nl)), ("com/example/rekha/rekha/ActiveEdges", "left", "[I", (.ref la)), ("com/example/rekha/rekha/ActiveEdges", "right", "[I", (.ref ra)), ("com/example/rekha/rekha/ActiveEdges", "parent", "[I", (.ref pa)), ("com/example/rekha/rekha/ActiveEdges", "red", "[Z", (.ref da)), ("com/example/rekha/rekha/ActiveEdges", "root", "I", (.int root))]) :: F) (fun v M' => v = none ∧ M' = ((da, ArI Z .boolean o.d) :: (pa, ArI Z .int o.p) :: (ra, ArI Z .int o.r) :: (la, ArI Z .int o.l) :: (ta, Obj Z "com/example/rekha/rekha/ActiveEdges" [("com/example/rekha/rekha/ActiveEdges", "nil", "I", (.int nl)), ("com/example/rekha/rekha/ActiveEdges", "left", "[I", (.ref la)), ("com/example/rekha/rekha/ActiveEdges", "right", "[I", (.ref ra)), ("com/example/rekha/rekha/ActiveEdges", "parent", "[I", (.ref pa)), ("com/example/rekha/rekha/ActiveEdges", "red", "[Z", (.ref da)), ("com/example/rekha/rekha/ActiveEdges", "root", "I", (.int o.root))]) :: F)) := by
  refine Met.of HT pl_4 (Ls := #[.val (.ref ta), .val (.int ins), .unset, .unset, .unset, .unset, .unset]) (fun m => by first | (simp [entryFrame, mkF, argsToLocals, Value.category]; done) | rfl) (fun k H => ?_)
  unfold m_ai at hm
  refine s_iloadn H d4_0 rfl (pc' := 1) rfl ?_
  refine s_istoren H d4_1 (L' := fun z => #[.val (.ref ta), .val (.int ins), .val (.int z), .unset, .unset, .unset, .unset]) (fun _ => rfl) (pc' := 2) rfl (fun z0 hz => ?_)
  subst z0
  refine s_aloadn H d4_2 rfl rfl (pc' := 3) rfl ?_
  refine s_getf H d4_3 (mem (i := 20) rfl) (i := 4) (j := 4) rfl rfl (pc' := 6) rfl ?_
  refine s_aloadn H d4_6 rfl rfl (pc' := 7) rfl ?_
  refine s_getf H d4_7 (mem (i := 17) rfl) (i := 4) (j := 3) rfl rfl (pc' := 10) rfl ?_
  refine s_iloadn H d4_10 rfl (pc' := 11) rfl ?_
  obtain ⟨a1, e_a1, hm⟩ := own_bnd hm
  refine s_iaload H d4_11 (i := 1) rfl (x := a1) (gt_ok e_a1).1 (jn := (ins).toNatClampNeg) rfl (gt_ok e_a1).2 (pc' := 12) rfl ?_
  obtain ⟨a2, e_a2, hm⟩ := own_bnd hm
  refine s_zaload H d4_12 (i := 0) rfl (x := a2) (gt_ok e_a2).1 (jn := (a1).toNatClampNeg) rfl (gt_ok e_a2).2 (pc' := 13) rfl ?_
  refine s_if H d4_13 (py := 186) (pc' := 16) z_eq (by decide) rfl (fun c13 => ?_) (fun c13 => ?_)
  · replace hm := own_ifp c13 hm
    refine s_aloadn H d4_186 rfl rfl (pc' := 187) rfl ?_
    refine s_getf H d4_187 (mem (i := 20) rfl) (i := 4) (j := 4) rfl rfl (pc' := 190) rfl ?_
    refine s_aloadn H d4_190 rfl rfl (pc' := 191) rfl ?_
    refine s_getf H d4_191 (mem (i := 22) rfl) (i := 4) (j := 5) rfl rfl (pc' := 194) rfl ?_
    refine s_iconst H d4_194 (z := (0 : Int32)) (by decide) (pc' := 195) rfl ?_
    obtain ⟨l3, e_l3, hm⟩ := own_bnd hm
    refine s_zastore H d4_195 (i := 0) rfl (pt_ok e_l3).1 (jn := (root).toNatClampNeg) rfl (pt_ok e_l3).2.1 (x := (0 : Int32)) (by decide) (pc' := 196) rfl ?_
    rw [(pt_ok e_l3).2.2]
    show Go Z k 0 0 ((da, ArI Z .boolean l3) :: (pa, ArI Z .int p) :: (ra, ArI Z .int r) :: (la, ArI Z .int l) :: (ta, Obj Z "com/example/rekha/rekha/ActiveEdges" [("com/example/rekha/rekha/ActiveEdges", "nil", "I", (.int nl)), ("com/example/rekha/rekha/ActiveEdges", "left", "[I", (.ref la)), ("com/example/rekha/rekha/ActiveEdges", "right", "[I", (.ref ra)), ("com/example/rekha/rekha/ActiveEdges", "parent", "[I", (.ref pa)), ("com/example/rekha/rekha/ActiveEdges", "red", "[Z", (.ref da)), ("com/example/rekha/rekha/ActiveEdges", "root", "I", (.int root))]) :: F) 196 #[.val (.ref ta), .val (.int ins), .val (.int ins), .unset, .unset, .unset, .unset] []
    refine s_vret H d4_196 (by decide) (by decide) ?_
    obtain rfl := Option.some.inj hm
    exact ⟨rfl, rfl⟩
  · replace hm := own_ifn c13 hm
    refine s_aloadn H d4_16 rfl rfl (pc' := 17) rfl ?_
    refine s_getf H d4_17 (mem (i := 17) rfl) (i := 4) (j := 3) rfl rfl (pc' := 20) rfl ?_
    refine s_iloadn H d4_20 rfl (pc' := 21) rfl ?_
    obtain ⟨a4, e_a4, hm⟩ := own_bnd hm
    refine s_iaload H d4_21 (i := 1) rfl (x := a4) (gt_ok e_a4).1 (jn := (ins).toNatClampNeg) rfl (gt_ok e_a4).2 (pc' := 22) rfl ?_
    refine s_istoren H d4_22 (L' := fun z => #[.val (.ref ta), .val (.int ins), .val (.int ins), .val (.int z), .unset, .unset, .unset]) (fun _ => rfl) (pc' := 23) rfl (fun z0 hz => ?_)
    subst z0
    refine s_aloadn H d4_23 rfl rfl (pc' := 24) rfl ?_
    refine s_getf H d4_24 (mem (i := 17) rfl) (i := 4) (j := 3) rfl rfl (pc' := 27) rfl ?_
    refine s_iloadn H d4_27 rfl (pc' := 28) rfl ?_
    obtain ⟨a5, e_a5, hm⟩ := own_bnd hm
    refine s_iaload H d4_28 (i := 1) rfl (x := a5) (gt_ok e_a5).1 (jn := (a4).toNatClampNeg) rfl (gt_ok e_a5).2 (pc' := 29) rfl ?_
    refine s_istore H d4_29 (L' := fun z => #[.val (.ref ta), .val (.int ins), .val (.int ins), .val (.int a4), .val (.int z), .unset, .unset]) (fun _ => rfl) (pc' := 31) rfl (fun z0 hz => ?_)
    subst z0
    refine s_iloadn H d4_31 rfl (pc' := 32) rfl ?_
    refine s_aloadn H d4_32 rfl rfl (pc' := 33) rfl ?_
    refine s_getf H d4_33 (mem (i := 13) rfl) (i := 4) (j := 1) rfl rfl (pc' := 36) rfl ?_
    refine s_iload H d4_36 rfl (pc' := 38) rfl ?_
    obtain ⟨a6, e_a6, hm⟩ := own_bnd hm
    refine s_iaload H d4_38 (i := 3) rfl (x := a6) (gt_ok e_a6).1 (jn := (a5).toNatClampNeg) rfl (gt_ok e_a6).2 (pc' := 39) rfl ?_
    refine s_icmp H d4_39 (py := 46) (pc' := 42) q_ne (by decide) rfl (fun c39 => ?_) (fun c39 => ?_)
    · replace hm := own_ifp c39 hm
      refine s_iconst H d4_46 (z := (0 : Int32)) (by decide) (pc' := 47) rfl ?_
      refine s_istore H d4_47 (L' := fun z => #[.val (.ref ta), .val (.int ins), .val (.int ins), .val (.int a4), .val (.int a5), .val (.int z), .unset]) (fun _ => rfl) (pc' := 49) rfl (fun z0 hz => ?_)
      subst z0
      refine s_iload H d4_49 rfl (pc' := 51) rfl ?_
      refine s_if H d4_51 (py := 64) (pc' := 54) z_eq (by decide) rfl (fun c51 => ?_) (fun c51 => ?_)
      · refine s_aloadn H d4_64 rfl rfl (pc' := 65) rfl ?_
        refine s_getf H d4_65 (mem (i := 13) rfl) (i := 4) (j := 1) rfl rfl (pc' := 68) rfl ?_
        refine s_iload H d4_68 rfl (pc' := 70) rfl ?_
        obtain ⟨a7, e_a7, hm⟩ := own_bnd hm
        refine s_iaload H d4_70 (i := 3) rfl (x := a7) (gt_ok e_a7).1 (jn := (a5).toNatClampNeg) rfl (gt_ok e_a7).2 (pc' := 71) rfl ?_
        refine s_istore H d4_71 (L' := fun z => #[.val (.ref ta), .val (.int ins), .val (.int ins), .val (.int a4), .val (.int a5), .val (.int (0 : Int32)), .val (.int z)]) (fun _ => rfl) (pc' := 73) rfl (fun z0 hz => ?_)
        subst z0
        refine s_aloadn H d4_73 rfl rfl (pc' := 74) rfl ?_
        refine s_getf H d4_74 (mem (i := 20) rfl) (i := 4) (j := 4) rfl rfl (pc' := 77) rfl ?_
        refine s_iload H d4_77 rfl (pc' := 79) rfl ?_
        obtain ⟨a8, e_a8, hm⟩ := own_bnd hm
        refine s_zaload H d4_79 (i := 0) rfl (x := a8) (gt_ok e_a8).1 (jn := (a7).toNatClampNeg) rfl (gt_ok e_a8).2 (pc' := 80) rfl ?_
        refine s_if H d4_80 (py := 112) (pc' := 83) z_eq (by decide) rfl (fun c80 => ?_) (fun c80 => ?_)
        · replace hm := own_ifp c80 hm
          refine s_iloadn H d4_112 rfl (pc' := 113) rfl ?_
          refine s_iload H d4_113 rfl (pc' := 115) rfl ?_
          refine s_if H d4_115 (py := 127) (pc' := 118) z_eq (by decide) rfl (fun c115 => ?_) (fun c115 => ?_)
          · refine s_aloadn H d4_127 rfl rfl (pc' := 128) rfl ?_
            refine s_getf H d4_128 (mem (i := 13) rfl) (i := 4) (j := 1) rfl rfl (pc' := 131) rfl ?_
            refine s_iloadn H d4_131 rfl (pc' := 132) rfl ?_
            obtain ⟨a9, e_a9, hm⟩ := own_bnd hm
            refine s_iaload H d4_132 (i := 3) rfl (x := a9) (gt_ok e_a9).1 (jn := (a4).toNatClampNeg) rfl (gt_ok e_a9).2 (pc' := 133) rfl ?_
            refine s_icmp H d4_133 (py := 152) (pc' := 136) q_ne (by decide) rfl (fun c133 => ?_) (fun c133 => ?_)
            · replace hm := own_ifp c133 hm
              refine s_aloadn H d4_152 rfl rfl (pc' := 153) rfl ?_
              refine s_getf H d4_153 (mem (i := 20) rfl) (i := 4) (j := 4) rfl rfl (pc' := 156) rfl ?_
              refine s_iloadn H d4_156 rfl (pc' := 157) rfl ?_
              refine s_iconst H d4_157 (z := (0 : Int32)) (by decide) (pc' := 158) rfl ?_
              obtain ⟨l10, e_l10, hm⟩ := own_bnd hm
              refine s_zastore H d4_158 (i := 0) rfl (pt_ok e_l10).1 (jn := (a4).toNatClampNeg) rfl (pt_ok e_l10).2.1 (x := (0 : Int32)) (by decide) (pc' := 159) rfl ?_
              rw [(pt_ok e_l10).2.2]
              show Go Z k 0 0 ((da, ArI Z .boolean l10) :: (pa, ArI Z .int p) :: (ra, ArI Z .int r) :: (la, ArI Z .int l) :: (ta, Obj Z "com/example/rekha/rekha/ActiveEdges" [("com/example/rekha/rekha/ActiveEdges", "nil", "I", (.int nl)), ("com/example/rekha/rekha/ActiveEdges", "left", "[I", (.ref la)), ("com/example/rekha/rekha/ActiveEdges", "right", "[I", (.ref ra)), ("com/example/rekha/rekha/ActiveEdges", "parent", "[I", (.ref pa)), ("com/example/rekha/rekha/ActiveEdges", "red", "[Z", (.ref da)), ("com/example/rekha/rekha/ActiveEdges", "root", "I", (.int root))]) :: F) 159 #[.val (.ref ta), .val (.int ins), .val (.int ins), .val (.int a4), .val (.int a5), .val (.int (0 : Int32)), .val (.int a7)] []
              refine s_aloadn H d4_159 rfl rfl (pc' := 160) rfl ?_
              refine s_getf H d4_160 (mem (i := 20) rfl) (i := 4) (j := 4) rfl rfl (pc' := 163) rfl ?_
              refine s_iload H d4_163 rfl (pc' := 165) rfl ?_
              refine s_iconst H d4_165 (z := (1 : Int32)) (by decide) (pc' := 166) rfl ?_
              obtain ⟨l11, e_l11, hm⟩ := own_bnd hm
              refine s_zastore H d4_166 (i := 0) rfl (pt_ok e_l11).1 (jn := (a5).toNatClampNeg) rfl (pt_ok e_l11).2.1 (x := (1 : Int32)) (by decide) (pc' := 167) rfl ?_
              rw [(pt_ok e_l11).2.2]
              show Go Z k 0 0 ((da, ArI Z .boolean l11) :: (pa, ArI Z .int p) :: (ra, ArI Z .int r) :: (la, ArI Z .int l) :: (ta, Obj Z "com/example/rekha/rekha/ActiveEdges" [("com/example/rekha/rekha/ActiveEdges", "nil", "I", (.int nl)), ("com/example/rekha/rekha/ActiveEdges", "left", "[I", (.ref la)), ("com/example/rekha/rekha/ActiveEdges", "right", "[I", (.ref ra)), ("com/example/rekha/rekha/ActiveEdges", "parent", "[I", (.ref pa)), ("com/example/rekha/rekha/ActiveEdges", "red", "[Z", (.ref da)), ("com/example/rekha/rekha/ActiveEdges", "root", "I", (.int root))]) :: F) 167 #[.val (.ref ta), .val (.int ins), .val (.int ins), .val (.int a4), .val (.int a5), .val (.int (0 : Int32)), .val (.int a7)] []
              refine s_aloadn H d4_167 rfl rfl (pc' := 168) rfl ?_
              refine s_iload H d4_168 rfl (pc' := 170) rfl ?_
              refine s_iload H d4_170 rfl (pc' := 172) rfl ?_
              refine s_if H d4_172 (py := 179) (pc' := 175) z_ne (by decide) rfl (fun c172 => ?_) (fun c172 => ?_)
              · exact absurd c172 (by decide)
              · refine s_iconst H d4_175 (z := (1 : Int32)) (by decide) (pc' := 176) rfl ?_
                refine s_goto H d4_176 (pc' := 180) (by decide) ?_
                obtain ⟨t12, e_t12, hm⟩ := own_bnd hm
                refine s_priv H (met_ro1 H.tb ta la ra pa da a5 e_t12) d4_180 (i := 4) rfl (mem (i := 37) rfl) (mem (i := 39) rfl) (mem (i := 27) rfl) rfl (mem (i := 38) rfl) (mem (i := 4) rfl) (mem (i := 40) rfl) (by decide) pd_6 rfl (rest := []) rfl rfl (by decide) (Nat.le_of_ble_eq_true rfl) (cn' := 0) (sn' := 0) rfl rfl (by decide) (by decide) (pc' := 183) rfl (fun v0 M0 hq => ?_)
                obtain ⟨rfl, hm0⟩ := hq
                subst M0
                show Go Z k 0 0 ((da, ArI Z .boolean t12.d) :: (pa, ArI Z .int t12.p) :: (ra, ArI Z .int t12.r) :: (la, ArI Z .int t12.l) :: (ta, Obj Z "com/example/rekha/rekha/ActiveEdges" [("com/example/rekha/rekha/ActiveEdges", "nil", "I", (.int nl)), ("com/example/rekha/rekha/ActiveEdges", "left", "[I", (.ref la)), ("com/example/rekha/rekha/ActiveEdges", "right", "[I", (.ref ra)), ("com/example/rekha/rekha/ActiveEdges", "parent", "[I", (.ref pa)), ("com/example/rekha/rekha/ActiveEdges", "red", "[Z", (.ref da)), ("com/example/rekha/rekha/ActiveEdges", "root", "I", (.int t12.root))]) :: F) 183 #[.val (.ref ta), .val (.int ins), .val (.int ins), .val (.int a4), .val (.int a5), .val (.int (0 : Int32)), .val (.int a7)] []
                refine s_goto H d4_183 (pc' := 2) (by decide) ?_
                exact lp_ail _ _ _ _ _ _ _ _ _ _ _ _ H hm
            · replace hm := own_ifn c133 hm
              refine s_iloadn H d4_136 rfl (pc' := 137) rfl ?_
              refine s_istoren H d4_137 (L' := fun z => #[.val (.ref ta), .val (.int ins), .val (.int z), .val (.int a4), .val (.int a5), .val (.int (0 : Int32)), .val (.int a7)]) (fun _ => rfl) (pc' := 138) rfl (fun z0 hz => ?_)
              subst z0
              refine s_aloadn H d4_138 rfl rfl (pc' := 139) rfl ?_
              refine s_iloadn H d4_139 rfl (pc' := 140) rfl ?_
              refine s_iload H d4_140 rfl (pc' := 142) rfl ?_
              obtain ⟨t13, e_t13, hm⟩ := own_bnd hm
              refine s_priv H (met_ro0 H.tb ta la ra pa da a4 e_t13) d4_142 (i := 4) rfl (mem (i := 37) rfl) (mem (i := 39) rfl) (mem (i := 27) rfl) rfl (mem (i := 38) rfl) (mem (i := 4) rfl) (mem (i := 40) rfl) (by decide) pd_6 rfl (rest := []) rfl rfl (by decide) (Nat.le_of_ble_eq_true rfl) (cn' := 0) (sn' := 0) rfl rfl (by decide) (by decide) (pc' := 145) rfl (fun v0 M0 hq => ?_)
              obtain ⟨rfl, hm0⟩ := hq
              subst M0
              show Go Z k 0 0 ((da, ArI Z .boolean t13.d) :: (pa, ArI Z .int t13.p) :: (ra, ArI Z .int t13.r) :: (la, ArI Z .int t13.l) :: (ta, Obj Z "com/example/rekha/rekha/ActiveEdges" [("com/example/rekha/rekha/ActiveEdges", "nil", "I", (.int nl)), ("com/example/rekha/rekha/ActiveEdges", "left", "[I", (.ref la)), ("com/example/rekha/rekha/ActiveEdges", "right", "[I", (.ref ra)), ("com/example/rekha/rekha/ActiveEdges", "parent", "[I", (.ref pa)), ("com/example/rekha/rekha/ActiveEdges", "red", "[Z", (.ref da)), ("com/example/rekha/rekha/ActiveEdges", "root", "I", (.int t13.root))]) :: F) 145 #[.val (.ref ta), .val (.int ins), .val (.int a4), .val (.int a4), .val (.int a5), .val (.int (0 : Int32)), .val (.int a7)] []
              refine s_aloadn H d4_145 rfl rfl (pc' := 146) rfl ?_
              refine s_getf H d4_146 (mem (i := 17) rfl) (i := 4) (j := 3) rfl rfl (pc' := 149) rfl ?_
              refine s_iloadn H d4_149 rfl (pc' := 150) rfl ?_
              obtain ⟨a14, e_a14, hm⟩ := own_bnd hm
              refine s_iaload H d4_150 (i := 1) rfl (x := a14) (gt_ok e_a14).1 (jn := (a4).toNatClampNeg) rfl (gt_ok e_a14).2 (pc' := 151) rfl ?_
              refine s_istoren H d4_151 (L' := fun z => #[.val (.ref ta), .val (.int ins), .val (.int a4), .val (.int z), .val (.int a5), .val (.int (0 : Int32)), .val (.int a7)]) (fun _ => rfl) (pc' := 152) rfl (fun z0 hz => ?_)
              subst z0
              refine s_aloadn H d4_152 rfl rfl (pc' := 153) rfl ?_
              refine s_getf H d4_153 (mem (i := 20) rfl) (i := 4) (j := 4) rfl rfl (pc' := 156) rfl ?_
              refine s_iloadn H d4_156 rfl (pc' := 157) rfl ?_
              refine s_iconst H d4_157 (z := (0 : Int32)) (by decide) (pc' := 158) rfl ?_
              obtain ⟨l15, e_l15, hm⟩ := own_bnd hm
              refine s_zastore H d4_158 (i := 0) rfl (pt_ok e_l15).1 (jn := (a14).toNatClampNeg) rfl (pt_ok e_l15).2.1 (x := (0 : Int32)) (by decide) (pc' := 159) rfl ?_
              rw [(pt_ok e_l15).2.2]
              show Go Z k 0 0 ((da, ArI Z .boolean l15) :: (pa, ArI Z .int t13.p) :: (ra, ArI Z .int t13.r) :: (la, ArI Z .int t13.l) :: (ta, Obj Z "com/example/rekha/rekha/ActiveEdges" [("com/example/rekha/rekha/ActiveEdges", "nil", "I", (.int nl)), ("com/example/rekha/rekha/ActiveEdges", "left", "[I", (.ref la)), ("com/example/rekha/rekha/ActiveEdges", "right", "[I", (.ref ra)), ("com/example/rekha/rekha/ActiveEdges", "parent", "[I", (.ref pa)), ("com/example/rekha/rekha/ActiveEdges", "red", "[Z", (.ref da)), ("com/example/rekha/rekha/ActiveEdges", "root", "I", (.int t13.root))]) :: F) 159 #[.val (.ref ta), .val (.int ins), .val (.int a4), .val (.int a14), .val (.int a5), .val (.int (0 : Int32)), .val (.int a7)] []
              refine s_aloadn H d4_159 rfl rfl (pc' := 160) rfl ?_
              refine s_getf H d4_160 (mem (i := 20) rfl) (i := 4) (j := 4) rfl rfl (pc' := 163) rfl ?_
              refine s_iload H d4_163 rfl (pc' := 165) rfl ?_
              refine s_iconst H d4_165 (z := (1 : Int32)) (by decide) (pc' := 166) rfl ?_
              obtain ⟨l16, e_l16, hm⟩ := own_bnd hm
              refine s_zastore H d4_166 (i := 0) rfl (pt_ok e_l16).1 (jn := (a5).toNatClampNeg) rfl (pt_ok e_l16).2.1 (x := (1 : Int32)) (by decide) (pc' := 167) rfl ?_
              rw [(pt_ok e_l16).2.2]
              show Go Z k 0 0 ((da, ArI Z .boolean l16) :: (pa, ArI Z .int t13.p) :: (ra, ArI Z .int t13.r) :: (la, ArI Z .int t13.l) :: (ta, Obj Z "com/example/rekha/rekha/ActiveEdges" [("com/example/rekha/rekha/ActiveEdges", "nil", "I", (.int nl)), ("com/example/rekha/rekha/ActiveEdges", "left", "[I", (.ref la)), ("com/example/rekha/rekha/ActiveEdges", "right", "[I", (.ref ra)), ("com/example/rekha/rekha/ActiveEdges", "parent", "[I", (.ref pa)), ("com/example/rekha/rekha/ActiveEdges", "red", "[Z", (.ref da)), ("com/example/rekha/rekha/ActiveEdges", "root", "I", (.int t13.root))]) :: F) 167 #[.val (.ref ta), .val (.int ins), .val (.int a4), .val (.int a14), .val (.int a5), .val (.int (0 : Int32)), .val (.int a7)] []
              refine s_aloadn H d4_167 rfl rfl (pc' := 168) rfl ?_
              refine s_iload H d4_168 rfl (pc' := 170) rfl ?_
              refine s_iload H d4_170 rfl (pc' := 172) rfl ?_
              refine s_if H d4_172 (py := 179) (pc' := 175) z_ne (by decide) rfl (fun c172 => ?_) (fun c172 => ?_)
              · exact absurd c172 (by decide)
              · refine s_iconst H d4_175 (z := (1 : Int32)) (by decide) (pc' := 176) rfl ?_
                refine s_goto H d4_176 (pc' := 180) (by decide) ?_
                obtain ⟨t17, e_t17, hm⟩ := own_bnd hm
                refine s_priv H (met_ro1 H.tb ta la ra pa da a5 e_t17) d4_180 (i := 4) rfl (mem (i := 37) rfl) (mem (i := 39) rfl) (mem (i := 27) rfl) rfl (mem (i := 38) rfl) (mem (i := 4) rfl) (mem (i := 40) rfl) (by decide) pd_6 rfl (rest := []) rfl rfl (by decide) (Nat.le_of_ble_eq_true rfl) (cn' := 0) (sn' := 0) rfl rfl (by decide) (by decide) (pc' := 183) rfl (fun v0 M0 hq => ?_)
                obtain ⟨rfl, hm0⟩ := hq
                subst M0
                show Go Z k 0 0 ((da, ArI Z .boolean t17.d) :: (pa, ArI Z .int t17.p) :: (ra, ArI Z .int t17.r) :: (la, ArI Z .int t17.l) :: (ta, Obj Z "com/example/rekha/rekha/ActiveEdges" [("com/example/rekha/rekha/ActiveEdges", "nil", "I", (.int nl)), ("com/example/rekha/rekha/ActiveEdges", "left", "[I", (.ref la)), ("com/example/rekha/rekha/ActiveEdges", "right", "[I", (.ref ra)), ("com/example/rekha/rekha/ActiveEdges", "parent", "[I", (.ref pa)), ("com/example/rekha/rekha/ActiveEdges", "red", "[Z", (.ref da)), ("com/example/rekha/rekha/ActiveEdges", "root", "I", (.int t17.root))]) :: F) 183 #[.val (.ref ta), .val (.int ins), .val (.int a4), .val (.int a14), .val (.int a5), .val (.int (0 : Int32)), .val (.int a7)] []
                refine s_goto H d4_183 (pc' := 2) (by decide) ?_
                exact lp_ail _ _ _ _ _ _ _ _ _ _ _ _ H hm
          · exact absurd c115 (by decide)
        · replace hm := own_ifn c80 hm
          refine s_aloadn H d4_83 rfl rfl (pc' := 84) rfl ?_
          refine s_getf H d4_84 (mem (i := 20) rfl) (i := 4) (j := 4) rfl rfl (pc' := 87) rfl ?_
          refine s_iloadn H d4_87 rfl (pc' := 88) rfl ?_
          refine s_iconst H d4_88 (z := (0 : Int32)) (by decide) (pc' := 89) rfl ?_
          obtain ⟨l18, e_l18, hm⟩ := own_bnd hm
          refine s_zastore H d4_89 (i := 0) rfl (pt_ok e_l18).1 (jn := (a4).toNatClampNeg) rfl (pt_ok e_l18).2.1 (x := (0 : Int32)) (by decide) (pc' := 90) rfl ?_
          rw [(pt_ok e_l18).2.2]
          show Go Z k 0 0 ((da, ArI Z .boolean l18) :: (pa, ArI Z .int p) :: (ra, ArI Z .int r) :: (la, ArI Z .int l) :: (ta, Obj Z "com/example/rekha/rekha/ActiveEdges" [("com/example/rekha/rekha/ActiveEdges", "nil", "I", (.int nl)), ("com/example/rekha/rekha/ActiveEdges", "left", "[I", (.ref la)), ("com/example/rekha/rekha/ActiveEdges", "right", "[I", (.ref ra)), ("com/example/rekha/rekha/ActiveEdges", "parent", "[I", (.ref pa)), ("com/example/rekha/rekha/ActiveEdges", "red", "[Z", (.ref da)), ("com/example/rekha/rekha/ActiveEdges", "root", "I", (.int root))]) :: F) 90 #[.val (.ref ta), .val (.int ins), .val (.int ins), .val (.int a4), .val (.int a5), .val (.int (0 : Int32)), .val (.int a7)] []
          refine s_aloadn H d4_90 rfl rfl (pc' := 91) rfl ?_
          refine s_getf H d4_91 (mem (i := 20) rfl) (i := 4) (j := 4) rfl rfl (pc' := 94) rfl ?_
          refine s_iload H d4_94 rfl (pc' := 96) rfl ?_
          refine s_iconst H d4_96 (z := (0 : Int32)) (by decide) (pc' := 97) rfl ?_
          obtain ⟨l19, e_l19, hm⟩ := own_bnd hm
          refine s_zastore H d4_97 (i := 0) rfl (pt_ok e_l19).1 (jn := (a7).toNatClampNeg) rfl (pt_ok e_l19).2.1 (x := (0 : Int32)) (by decide) (pc' := 98) rfl ?_
          rw [(pt_ok e_l19).2.2]
          show Go Z k 0 0 ((da, ArI Z .boolean l19) :: (pa, ArI Z .int p) :: (ra, ArI Z .int r) :: (la, ArI Z .int l) :: (ta, Obj Z "com/example/rekha/rekha/ActiveEdges" [("com/example/rekha/rekha/ActiveEdges", "nil", "I", (.int nl)), ("com/example/rekha/rekha/ActiveEdges", "left", "[I", (.ref la)), ("com/example/rekha/rekha/ActiveEdges", "right", "[I", (.ref ra)), ("com/example/rekha/rekha/ActiveEdges", "parent", "[I", (.ref pa)), ("com/example/rekha/rekha/ActiveEdges", "red", "[Z", (.ref da)), ("com/example/rekha/rekha/ActiveEdges", "root", "I", (.int root))]) :: F) 98 #[.val (.ref ta), .val (.int ins), .val (.int ins), .val (.int a4), .val (.int a5), .val (.int (0 : Int32)), .val (.int a7)] []
          refine s_aloadn H d4_98 rfl rfl (pc' := 99) rfl ?_
          refine s_getf H d4_99 (mem (i := 20) rfl) (i := 4) (j := 4) rfl rfl (pc' := 102) rfl ?_
          refine s_iload H d4_102 rfl (pc' := 104) rfl ?_
          refine s_iconst H d4_104 (z := (1 : Int32)) (by decide) (pc' := 105) rfl ?_
          obtain ⟨l20, e_l20, hm⟩ := own_bnd hm
          refine s_zastore H d4_105 (i := 0) rfl (pt_ok e_l20).1 (jn := (a5).toNatClampNeg) rfl (pt_ok e_l20).2.1 (x := (1 : Int32)) (by decide) (pc' := 106) rfl ?_
          rw [(pt_ok e_l20).2.2]
          show Go Z k 0 0 ((da, ArI Z .boolean l20) :: (pa, ArI Z .int p) :: (ra, ArI Z .int r) :: (la, ArI Z .int l) :: (ta, Obj Z "com/example/rekha/rekha/ActiveEdges" [("com/example/rekha/rekha/ActiveEdges", "nil", "I", (.int nl)), ("com/example/rekha/rekha/ActiveEdges", "left", "[I", (.ref la)), ("com/example/rekha/rekha/ActiveEdges", "right", "[I", (.ref ra)), ("com/example/rekha/rekha/ActiveEdges", "parent", "[I", (.ref pa)), ("com/example/rekha/rekha/ActiveEdges", "red", "[Z", (.ref da)), ("com/example/rekha/rekha/ActiveEdges", "root", "I", (.int root))]) :: F) 106 #[.val (.ref ta), .val (.int ins), .val (.int ins), .val (.int a4), .val (.int a5), .val (.int (0 : Int32)), .val (.int a7)] []
          refine s_iload H d4_106 rfl (pc' := 108) rfl ?_
          refine s_istoren H d4_108 (L' := fun z => #[.val (.ref ta), .val (.int ins), .val (.int z), .val (.int a4), .val (.int a5), .val (.int (0 : Int32)), .val (.int a7)]) (fun _ => rfl) (pc' := 109) rfl (fun z0 hz => ?_)
          subst z0
          refine s_goto H d4_109 (pc' := 183) (by decide) ?_
          refine s_goto H d4_183 (pc' := 2) (by decide) ?_
          exact lp_ail _ _ _ _ _ _ _ _ _ _ _ _ H hm
      · exact absurd c51 (by decide)
    · replace hm := own_ifn c39 hm
      refine s_iconst H d4_42 (z := (1 : Int32)) (by decide) (pc' := 43) rfl ?_
      refine s_goto H d4_43 (pc' := 47) (by decide) ?_
      refine s_istore H d4_47 (L' := fun z => #[.val (.ref ta), .val (.int ins), .val (.int ins), .val (.int a4), .val (.int a5), .val (.int z), .unset]) (fun _ => rfl) (pc' := 49) rfl (fun z0 hz => ?_)
      subst z0
      refine s_iload H d4_49 rfl (pc' := 51) rfl ?_
      refine s_if H d4_51 (py := 64) (pc' := 54) z_eq (by decide) rfl (fun c51 => ?_) (fun c51 => ?_)
      · exact absurd c51 (by decide)
      · refine s_aloadn H d4_54 rfl rfl (pc' := 55) rfl ?_
        refine s_getf H d4_55 (mem (i := 15) rfl) (i := 4) (j := 2) rfl rfl (pc' := 58) rfl ?_
        refine s_iload H d4_58 rfl (pc' := 60) rfl ?_
        obtain ⟨a21, e_a21, hm⟩ := own_bnd hm
        refine s_iaload H d4_60 (i := 2) rfl (x := a21) (gt_ok e_a21).1 (jn := (a5).toNatClampNeg) rfl (gt_ok e_a21).2 (pc' := 61) rfl ?_
        refine s_goto H d4_61 (pc' := 71) (by decide) ?_
        refine s_istore H d4_71 (L' := fun z => #[.val (.ref ta), .val (.int ins), .val (.int ins), .val (.int a4), .val (.int a5), .val (.int (1 : Int32)), .val (.int z)]) (fun _ => rfl) (pc' := 73) rfl (fun z0 hz => ?_)
        subst z0
        refine s_aloadn H d4_73 rfl rfl (pc' := 74) rfl ?_
        refine s_getf H d4_74 (mem (i := 20) rfl) (i := 4) (j := 4) rfl rfl (pc' := 77) rfl ?_
        refine s_iload H d4_77 rfl (pc' := 79) rfl ?_
        obtain ⟨a22, e_a22, hm⟩ := own_bnd hm
        refine s_zaload H d4_79 (i := 0) rfl (x := a22) (gt_ok e_a22).1 (jn := (a21).toNatClampNeg) rfl (gt_ok e_a22).2 (pc' := 80) rfl ?_
        refine s_if H d4_80 (py := 112) (pc' := 83) z_eq (by decide) rfl (fun c80 => ?_) (fun c80 => ?_)
        · replace hm := own_ifp c80 hm
          refine s_iloadn H d4_112 rfl (pc' := 113) rfl ?_
          refine s_iload H d4_113 rfl (pc' := 115) rfl ?_
          refine s_if H d4_115 (py := 127) (pc' := 118) z_eq (by decide) rfl (fun c115 => ?_) (fun c115 => ?_)
          · exact absurd c115 (by decide)
          · refine s_aloadn H d4_118 rfl rfl (pc' := 119) rfl ?_
            refine s_getf H d4_119 (mem (i := 15) rfl) (i := 4) (j := 2) rfl rfl (pc' := 122) rfl ?_
            refine s_iloadn H d4_122 rfl (pc' := 123) rfl ?_
            obtain ⟨a23, e_a23, hm⟩ := own_bnd hm
            refine s_iaload H d4_123 (i := 2) rfl (x := a23) (gt_ok e_a23).1 (jn := (a4).toNatClampNeg) rfl (gt_ok e_a23).2 (pc' := 124) rfl ?_
            refine s_goto H d4_124 (pc' := 133) (by decide) ?_
            refine s_icmp H d4_133 (py := 152) (pc' := 136) q_ne (by decide) rfl (fun c133 => ?_) (fun c133 => ?_)
            · replace hm := own_ifp c133 hm
              refine s_aloadn H d4_152 rfl rfl (pc' := 153) rfl ?_
              refine s_getf H d4_153 (mem (i := 20) rfl) (i := 4) (j := 4) rfl rfl (pc' := 156) rfl ?_
              refine s_iloadn H d4_156 rfl (pc' := 157) rfl ?_
              refine s_iconst H d4_157 (z := (0 : Int32)) (by decide) (pc' := 158) rfl ?_
              obtain ⟨l24, e_l24, hm⟩ := own_bnd hm
              refine s_zastore H d4_158 (i := 0) rfl (pt_ok e_l24).1 (jn := (a4).toNatClampNeg) rfl (pt_ok e_l24).2.1 (x := (0 : Int32)) (by decide) (pc' := 159) rfl ?_
              rw [(pt_ok e_l24).2.2]
              show Go Z k 0 0 ((da, ArI Z .boolean l24) :: (pa, ArI Z .int p) :: (ra, ArI Z .int r) :: (la, ArI Z .int l) :: (ta, Obj Z "com/example/rekha/rekha/ActiveEdges" [("com/example/rekha/rekha/ActiveEdges", "nil", "I", (.int nl)), ("com/example/rekha/rekha/ActiveEdges", "left", "[I", (.ref la)), ("com/example/rekha/rekha/ActiveEdges", "right", "[I", (.ref ra)), ("com/example/rekha/rekha/ActiveEdges", "parent", "[I", (.ref pa)), ("com/example/rekha/rekha/ActiveEdges", "red", "[Z", (.ref da)), ("com/example/rekha/rekha/ActiveEdges", "root", "I", (.int root))]) :: F) 159 #[.val (.ref ta), .val (.int ins), .val (.int ins), .val (.int a4), .val (.int a5), .val (.int (1 : Int32)), .val (.int a21)] []
              refine s_aloadn H d4_159 rfl rfl (pc' := 160) rfl ?_
              refine s_getf H d4_160 (mem (i := 20) rfl) (i := 4) (j := 4) rfl rfl (pc' := 163) rfl ?_
              refine s_iload H d4_163 rfl (pc' := 165) rfl ?_
              refine s_iconst H d4_165 (z := (1 : Int32)) (by decide) (pc' := 166) rfl ?_
              obtain ⟨l25, e_l25, hm⟩ := own_bnd hm
              refine s_zastore H d4_166 (i := 0) rfl (pt_ok e_l25).1 (jn := (a5).toNatClampNeg) rfl (pt_ok e_l25).2.1 (x := (1 : Int32)) (by decide) (pc' := 167) rfl ?_
              rw [(pt_ok e_l25).2.2]
              show Go Z k 0 0 ((da, ArI Z .boolean l25) :: (pa, ArI Z .int p) :: (ra, ArI Z .int r) :: (la, ArI Z .int l) :: (ta, Obj Z "com/example/rekha/rekha/ActiveEdges" [("com/example/rekha/rekha/ActiveEdges", "nil", "I", (.int nl)), ("com/example/rekha/rekha/ActiveEdges", "left", "[I", (.ref la)), ("com/example/rekha/rekha/ActiveEdges", "right", "[I", (.ref ra)), ("com/example/rekha/rekha/ActiveEdges", "parent", "[I", (.ref pa)), ("com/example/rekha/rekha/ActiveEdges", "red", "[Z", (.ref da)), ("com/example/rekha/rekha/ActiveEdges", "root", "I", (.int root))]) :: F) 167 #[.val (.ref ta), .val (.int ins), .val (.int ins), .val (.int a4), .val (.int a5), .val (.int (1 : Int32)), .val (.int a21)] []
              refine s_aloadn H d4_167 rfl rfl (pc' := 168) rfl ?_
              refine s_iload H d4_168 rfl (pc' := 170) rfl ?_
              refine s_iload H d4_170 rfl (pc' := 172) rfl ?_
              refine s_if H d4_172 (py := 179) (pc' := 175) z_ne (by decide) rfl (fun c172 => ?_) (fun c172 => ?_)
              · refine s_iconst H d4_179 (z := (0 : Int32)) (by decide) (pc' := 180) rfl ?_
                obtain ⟨t26, e_t26, hm⟩ := own_bnd hm
                refine s_priv H (met_ro0 H.tb ta la ra pa da a5 e_t26) d4_180 (i := 4) rfl (mem (i := 37) rfl) (mem (i := 39) rfl) (mem (i := 27) rfl) rfl (mem (i := 38) rfl) (mem (i := 4) rfl) (mem (i := 40) rfl) (by decide) pd_6 rfl (rest := []) rfl rfl (by decide) (Nat.le_of_ble_eq_true rfl) (cn' := 0) (sn' := 0) rfl rfl (by decide) (by decide) (pc' := 183) rfl (fun v0 M0 hq => ?_)
                obtain ⟨rfl, hm0⟩ := hq
                subst M0
                show Go Z k 0 0 ((da, ArI Z .boolean t26.d) :: (pa, ArI Z .int t26.p) :: (ra, ArI Z .int t26.r) :: (la, ArI Z .int t26.l) :: (ta, Obj Z "com/example/rekha/rekha/ActiveEdges" [("com/example/rekha/rekha/ActiveEdges", "nil", "I", (.int nl)), ("com/example/rekha/rekha/ActiveEdges", "left", "[I", (.ref la)), ("com/example/rekha/rekha/ActiveEdges", "right", "[I", (.ref ra)), ("com/example/rekha/rekha/ActiveEdges", "parent", "[I", (.ref pa)), ("com/example/rekha/rekha/ActiveEdges", "red", "[Z", (.ref da)), ("com/example/rekha/rekha/ActiveEdges", "root", "I", (.int t26.root))]) :: F) 183 #[.val (.ref ta), .val (.int ins), .val (.int ins), .val (.int a4), .val (.int a5), .val (.int (1 : Int32)), .val (.int a21)] []
                refine s_goto H d4_183 (pc' := 2) (by decide) ?_
                exact lp_ail _ _ _ _ _ _ _ _ _ _ _ _ H hm
              · exact absurd c172 (by decide)
            · replace hm := own_ifn c133 hm
              refine s_iloadn H d4_136 rfl (pc' := 137) rfl ?_
              refine s_istoren H d4_137 (L' := fun z => #[.val (.ref ta), .val (.int ins), .val (.int z), .val (.int a4), .val (.int a5), .val (.int (1 : Int32)), .val (.int a21)]) (fun _ => rfl) (pc' := 138) rfl (fun z0 hz => ?_)
              subst z0
              refine s_aloadn H d4_138 rfl rfl (pc' := 139) rfl ?_
              refine s_iloadn H d4_139 rfl (pc' := 140) rfl ?_
              refine s_iload H d4_140 rfl (pc' := 142) rfl ?_
              obtain ⟨t27, e_t27, hm⟩ := own_bnd hm
              refine s_priv H (met_ro1 H.tb ta la ra pa da a4 e_t27) d4_142 (i := 4) rfl (mem (i := 37) rfl) (mem (i := 39) rfl) (mem (i := 27) rfl) rfl (mem (i := 38) rfl) (mem (i := 4) rfl) (mem (i := 40) rfl) (by decide) pd_6 rfl (rest := []) rfl rfl (by decide) (Nat.le_of_ble_eq_true rfl) (cn' := 0) (sn' := 0) rfl rfl (by decide) (by decide) (pc' := 145) rfl (fun v0 M0 hq => ?_)
              obtain ⟨rfl, hm0⟩ := hq
              subst M0
              show Go Z k 0 0 ((da, ArI Z .boolean t27.d) :: (pa, ArI Z .int t27.p) :: (ra, ArI Z .int t27.r) :: (la, ArI Z .int t27.l) :: (ta, Obj Z "com/example/rekha/rekha/ActiveEdges" [("com/example/rekha/rekha/ActiveEdges", "nil", "I", (.int nl)), ("com/example/rekha/rekha/ActiveEdges", "left", "[I", (.ref la)), ("com/example/rekha/rekha/ActiveEdges", "right", "[I", (.ref ra)), ("com/example/rekha/rekha/ActiveEdges", "parent", "[I", (.ref pa)), ("com/example/rekha/rekha/ActiveEdges", "red", "[Z", (.ref da)), ("com/example/rekha/rekha/ActiveEdges", "root", "I", (.int t27.root))]) :: F) 145 #[.val (.ref ta), .val (.int ins), .val (.int a4), .val (.int a4), .val (.int a5), .val (.int (1 : Int32)), .val (.int a21)] []
              refine s_aloadn H d4_145 rfl rfl (pc' := 146) rfl ?_
              refine s_getf H d4_146 (mem (i := 17) rfl) (i := 4) (j := 3) rfl rfl (pc' := 149) rfl ?_
              refine s_iloadn H d4_149 rfl (pc' := 150) rfl ?_
              obtain ⟨a28, e_a28, hm⟩ := own_bnd hm
              refine s_iaload H d4_150 (i := 1) rfl (x := a28) (gt_ok e_a28).1 (jn := (a4).toNatClampNeg) rfl (gt_ok e_a28).2 (pc' := 151) rfl ?_
              refine s_istoren H d4_151 (L' := fun z => #[.val (.ref ta), .val (.int ins), .val (.int a4), .val (.int z), .val (.int a5), .val (.int (1 : Int32)), .val (.int a21)]) (fun _ => rfl) (pc' := 152) rfl (fun z0 hz => ?_)
              subst z0
              refine s_aloadn H d4_152 rfl rfl (pc' := 153) rfl ?_
              refine s_getf H d4_153 (mem (i := 20) rfl) (i := 4) (j := 4) rfl rfl (pc' := 156) rfl ?_
              refine s_iloadn H d4_156 rfl (pc' := 157) rfl ?_
              refine s_iconst H d4_157 (z := (0 : Int32)) (by decide) (pc' := 158) rfl ?_
              obtain ⟨l29, e_l29, hm⟩ := own_bnd hm
              refine s_zastore H d4_158 (i := 0) rfl (pt_ok e_l29).1 (jn := (a28).toNatClampNeg) rfl (pt_ok e_l29).2.1 (x := (0 : Int32)) (by decide) (pc' := 159) rfl ?_
              rw [(pt_ok e_l29).2.2]
              show Go Z k 0 0 ((da, ArI Z .boolean l29) :: (pa, ArI Z .int t27.p) :: (ra, ArI Z .int t27.r) :: (la, ArI Z .int t27.l) :: (ta, Obj Z "com/example/rekha/rekha/ActiveEdges" [("com/example/rekha/rekha/ActiveEdges", "nil", "I", (.int nl)), ("com/example/rekha/rekha/ActiveEdges", "left", "[I", (.ref la)), ("com/example/rekha/rekha/ActiveEdges", "right", "[I", (.ref ra)), ("com/example/rekha/rekha/ActiveEdges", "parent", "[I", (.ref pa)), ("com/example/rekha/rekha/ActiveEdges", "red", "[Z", (.ref da)), ("com/example/rekha/rekha/ActiveEdges", "root", "I", (.int t27.root))]) :: F) 159 #[.val (.ref ta), .val (.int ins), .val (.int a4), .val (.int a28), .val (.int a5), .val (.int (1 : Int32)), .val (.int a21)] []
              refine s_aloadn H d4_159 rfl rfl (pc' := 160) rfl ?_
              refine s_getf H d4_160 (mem (i := 20) rfl) (i := 4) (j := 4) rfl rfl (pc' := 163) rfl ?_
              refine s_iload H d4_163 rfl (pc' := 165) rfl ?_
              refine s_iconst H d4_165 (z := (1 : Int32)) (by decide) (pc' := 166) rfl ?_
              obtain ⟨l30, e_l30, hm⟩ := own_bnd hm
              refine s_zastore H d4_166 (i := 0) rfl (pt_ok e_l30).1 (jn := (a5).toNatClampNeg) rfl (pt_ok e_l30).2.1 (x := (1 : Int32)) (by decide) (pc' := 167) rfl ?_
              rw [(pt_ok e_l30).2.2]
              show Go Z k 0 0 ((da, ArI Z .boolean l30) :: (pa, ArI Z .int t27.p) :: (ra, ArI Z .int t27.r) :: (la, ArI Z .int t27.l) :: (ta, Obj Z "com/example/rekha/rekha/ActiveEdges" [("com/example/rekha/rekha/ActiveEdges", "nil", "I", (.int nl)), ("com/example/rekha/rekha/ActiveEdges", "left", "[I", (.ref la)), ("com/example/rekha/rekha/ActiveEdges", "right", "[I", (.ref ra)), ("com/example/rekha/rekha/ActiveEdges", "parent", "[I", (.ref pa)), ("com/example/rekha/rekha/ActiveEdges", "red", "[Z", (.ref da)), ("com/example/rekha/rekha/ActiveEdges", "root", "I", (.int t27.root))]) :: F) 167 #[.val (.ref ta), .val (.int ins), .val (.int a4), .val (.int a28), .val (.int a5), .val (.int (1 : Int32)), .val (.int a21)] []
              refine s_aloadn H d4_167 rfl rfl (pc' := 168) rfl ?_
              refine s_iload H d4_168 rfl (pc' := 170) rfl ?_
              refine s_iload H d4_170 rfl (pc' := 172) rfl ?_
              refine s_if H d4_172 (py := 179) (pc' := 175) z_ne (by decide) rfl (fun c172 => ?_) (fun c172 => ?_)
              · refine s_iconst H d4_179 (z := (0 : Int32)) (by decide) (pc' := 180) rfl ?_
                obtain ⟨t31, e_t31, hm⟩ := own_bnd hm
                refine s_priv H (met_ro0 H.tb ta la ra pa da a5 e_t31) d4_180 (i := 4) rfl (mem (i := 37) rfl) (mem (i := 39) rfl) (mem (i := 27) rfl) rfl (mem (i := 38) rfl) (mem (i := 4) rfl) (mem (i := 40) rfl) (by decide) pd_6 rfl (rest := []) rfl rfl (by decide) (Nat.le_of_ble_eq_true rfl) (cn' := 0) (sn' := 0) rfl rfl (by decide) (by decide) (pc' := 183) rfl (fun v0 M0 hq => ?_)
                obtain ⟨rfl, hm0⟩ := hq
                subst M0
                show Go Z k 0 0 ((da, ArI Z .boolean t31.d) :: (pa, ArI Z .int t31.p) :: (ra, ArI Z .int t31.r) :: (la, ArI Z .int t31.l) :: (ta, Obj Z "com/example/rekha/rekha/ActiveEdges" [("com/example/rekha/rekha/ActiveEdges", "nil", "I", (.int nl)), ("com/example/rekha/rekha/ActiveEdges", "left", "[I", (.ref la)), ("com/example/rekha/rekha/ActiveEdges", "right", "[I", (.ref ra)), ("com/example/rekha/rekha/ActiveEdges", "parent", "[I", (.ref pa)), ("com/example/rekha/rekha/ActiveEdges", "red", "[Z", (.ref da)), ("com/example/rekha/rekha/ActiveEdges", "root", "I", (.int t31.root))]) :: F) 183 #[.val (.ref ta), .val (.int ins), .val (.int a4), .val (.int a28), .val (.int a5), .val (.int (1 : Int32)), .val (.int a21)] []
                refine s_goto H d4_183 (pc' := 2) (by decide) ?_
                exact lp_ail _ _ _ _ _ _ _ _ _ _ _ _ H hm
              · exact absurd c172 (by decide)
        · replace hm := own_ifn c80 hm
          refine s_aloadn H d4_83 rfl rfl (pc' := 84) rfl ?_
          refine s_getf H d4_84 (mem (i := 20) rfl) (i := 4) (j := 4) rfl rfl (pc' := 87) rfl ?_
          refine s_iloadn H d4_87 rfl (pc' := 88) rfl ?_
          refine s_iconst H d4_88 (z := (0 : Int32)) (by decide) (pc' := 89) rfl ?_
          obtain ⟨l32, e_l32, hm⟩ := own_bnd hm
          refine s_zastore H d4_89 (i := 0) rfl (pt_ok e_l32).1 (jn := (a4).toNatClampNeg) rfl (pt_ok e_l32).2.1 (x := (0 : Int32)) (by decide) (pc' := 90) rfl ?_
          rw [(pt_ok e_l32).2.2]
          show Go Z k 0 0 ((da, ArI Z .boolean l32) :: (pa, ArI Z .int p) :: (ra, ArI Z .int r) :: (la, ArI Z .int l) :: (ta, Obj Z "com/example/rekha/rekha/ActiveEdges" [("com/example/rekha/rekha/ActiveEdges", "nil", "I", (.int nl)), ("com/example/rekha/rekha/ActiveEdges", "left", "[I", (.ref la)), ("com/example/rekha/rekha/ActiveEdges", "right", "[I", (.ref ra)), ("com/example/rekha/rekha/ActiveEdges", "parent", "[I", (.ref pa)), ("com/example/rekha/rekha/ActiveEdges", "red", "[Z", (.ref da)), ("com/example/rekha/rekha/ActiveEdges", "root", "I", (.int root))]) :: F) 90 #[.val (.ref ta), .val (.int ins), .val (.int ins), .val (.int a4), .val (.int a5), .val (.int (1 : Int32)), .val (.int a21)] []
          refine s_aloadn H d4_90 rfl rfl (pc' := 91) rfl ?_
          refine s_getf H d4_91 (mem (i := 20) rfl) (i := 4) (j := 4) rfl rfl (pc' := 94) rfl ?_
          refine s_iload H d4_94 rfl (pc' := 96) rfl ?_
          refine s_iconst H d4_96 (z := (0 : Int32)) (by decide) (pc' := 97) rfl ?_
          obtain ⟨l33, e_l33, hm⟩ := own_bnd hm
          refine s_zastore H d4_97 (i := 0) rfl (pt_ok e_l33).1 (jn := (a21).toNatClampNeg) rfl (pt_ok e_l33).2.1 (x := (0 : Int32)) (by decide) (pc' := 98) rfl ?_
          rw [(pt_ok e_l33).2.2]
          show Go Z k 0 0 ((da, ArI Z .boolean l33) :: (pa, ArI Z .int p) :: (ra, ArI Z .int r) :: (la, ArI Z .int l) :: (ta, Obj Z "com/example/rekha/rekha/ActiveEdges" [("com/example/rekha/rekha/ActiveEdges", "nil", "I", (.int nl)), ("com/example/rekha/rekha/ActiveEdges", "left", "[I", (.ref la)), ("com/example/rekha/rekha/ActiveEdges", "right", "[I", (.ref ra)), ("com/example/rekha/rekha/ActiveEdges", "parent", "[I", (.ref pa)), ("com/example/rekha/rekha/ActiveEdges", "red", "[Z", (.ref da)), ("com/example/rekha/rekha/ActiveEdges", "root", "I", (.int root))]) :: F) 98 #[.val (.ref ta), .val (.int ins), .val (.int ins), .val (.int a4), .val (.int a5), .val (.int (1 : Int32)), .val (.int a21)] []
          refine s_aloadn H d4_98 rfl rfl (pc' := 99) rfl ?_
          refine s_getf H d4_99 (mem (i := 20) rfl) (i := 4) (j := 4) rfl rfl (pc' := 102) rfl ?_
          refine s_iload H d4_102 rfl (pc' := 104) rfl ?_
          refine s_iconst H d4_104 (z := (1 : Int32)) (by decide) (pc' := 105) rfl ?_
          obtain ⟨l34, e_l34, hm⟩ := own_bnd hm
          refine s_zastore H d4_105 (i := 0) rfl (pt_ok e_l34).1 (jn := (a5).toNatClampNeg) rfl (pt_ok e_l34).2.1 (x := (1 : Int32)) (by decide) (pc' := 106) rfl ?_
          rw [(pt_ok e_l34).2.2]
          show Go Z k 0 0 ((da, ArI Z .boolean l34) :: (pa, ArI Z .int p) :: (ra, ArI Z .int r) :: (la, ArI Z .int l) :: (ta, Obj Z "com/example/rekha/rekha/ActiveEdges" [("com/example/rekha/rekha/ActiveEdges", "nil", "I", (.int nl)), ("com/example/rekha/rekha/ActiveEdges", "left", "[I", (.ref la)), ("com/example/rekha/rekha/ActiveEdges", "right", "[I", (.ref ra)), ("com/example/rekha/rekha/ActiveEdges", "parent", "[I", (.ref pa)), ("com/example/rekha/rekha/ActiveEdges", "red", "[Z", (.ref da)), ("com/example/rekha/rekha/ActiveEdges", "root", "I", (.int root))]) :: F) 106 #[.val (.ref ta), .val (.int ins), .val (.int ins), .val (.int a4), .val (.int a5), .val (.int (1 : Int32)), .val (.int a21)] []
          refine s_iload H d4_106 rfl (pc' := 108) rfl ?_
          refine s_istoren H d4_108 (L' := fun z => #[.val (.ref ta), .val (.int ins), .val (.int z), .val (.int a4), .val (.int a5), .val (.int (1 : Int32)), .val (.int a21)]) (fun _ => rfl) (pc' := 109) rfl (fun z0 hz => ?_)
          subst z0
          refine s_goto H d4_109 (pc' := 183) (by decide) ?_
          refine s_goto H d4_183 (pc' := 2) (by decide) ?_
          exact lp_ail _ _ _ _ _ _ _ _ _ _ _ _ H hm
def m_ib (nl : Int32) (l r p d : List Int32) (root : Int32) (eg ab : Int32) : Option Tr := (pt l eg nl).bind fun l1 => (pt r eg nl).bind fun l2 => (pt d eg (1 : Int32)).bind fun l3 => (if ¬ root = nl then ((if ¬ ab = nl then ((gt l1 ab).bind fun a4 => (if ¬ a4 = nl then ((gt l1 ab).bind fun a5 => (m_rm nl l1 l2 p l3 root a5).bind fun t6 => (pt l2 t6 eg).bind fun l7 => (pt p eg t6).bind fun l8 => (m_ai nl l1 l7 l8 l3 root eg).bind fun t9 => (some (Tr.mk t9.l t9.r t9.p t9.d t9.root))) else ((pt l1 ab eg).bind fun l10 => (pt p eg ab).bind fun l11 => (m_ai nl l10 l2 l11 l3 root eg).bind fun t12 => (some (Tr.mk t12.l t12.r t12.p t12.d t12.root))))) else ((m_rm nl l1 l2 p l3 root root).bind fun t13 => (pt l2 t13 eg).bind fun l14 => (pt p eg t13).bind fun l15 => (m_ai nl l1 l14 l15 l3 root eg).bind fun t16 => (some (Tr.mk t16.l t16.r t16.p t16.d t16.root))))) else ((pt p eg nl).bind fun l17 => (m_ai nl l1 l2 l17 l3 eg eg).bind fun t18 => (some (Tr.mk t18.l t18.r t18.p t18.d t18.root))))
set_option maxRecDepth 65536 in
set_option maxHeartbeats 40000000 in
theorem met_ib {Z : State} (HT : Tb Z) {F : Hp} {nl root : Int32} {l r p d : List Int32} (ta la ra pa da : Addr) (eg ab : Int32) {o : Tr} (hm : m_ib nl l r p d root eg ab = some o) : Met Z y_3 prog_2_method_7_code 4 none ({ frames := 3, cells := 0, slots := 0, locals := 49 } : Room) [(.ref ta), (.int eg), (.int ab)] ((da, ArI Z .boolean d) :: (pa, ArI Z .int p) :: (ra, ArI Z .int r) :: (la, ArI Z .int l) :: (ta, Obj Z "com/example/rekha/rekha/ActiveEdges" [("com/example/rekha/rekha/ActiveEdges", "nil", "I", (.int nl)), ("com/example/rekha/rekha/ActiveEdges", "left", "[I", (.ref la)), ("com/example/rekha/rekha/ActiveEdges", "right", "[I", (.ref ra)), ("com/example/rekha/rekha/ActiveEdges", "parent", "[I", (.ref pa)), ("com/example/rekha/rekha/ActiveEdges", "red", "[Z", (.ref da)), ("com/example/rekha/rekha/ActiveEdges", "root", "I", (.int root))]) :: F) (fun v M' => v = none ∧ M' = ((da, ArI Z .boolean o.d) :: (pa, ArI Z .int o.p) :: (ra, ArI Z .int o.r) :: (la, ArI Z .int o.l) :: (ta, Obj Z "com/example/rekha/rekha/ActiveEdges" [("com/example/rekha/rekha/ActiveEdges", "nil", "I", (.int nl)), ("com/example/rekha/rekha/ActiveEdges", "left", "[I", (.ref la)), ("com/example/rekha/rekha/ActiveEdges", "right", "[I", (.ref ra)), ("com/example/rekha/rekha/ActiveEdges", "parent", "[I", (.ref pa)), ("com/example/rekha/rekha/ActiveEdges", "red", "[Z", (.ref da)), ("com/example/rekha/rekha/ActiveEdges", "root", "I", (.int o.root))]) :: F)) := by
  refine Met.of HT pl_3 (Ls := #[.val (.ref ta), .val (.int eg), .val (.int ab), .unset]) (fun m => by first | (simp [entryFrame, mkF, argsToLocals, Value.category]; done) | rfl) (fun k H => ?_)
  unfold m_ib at hm
  refine s_aloadn H d3_0 rfl rfl (pc' := 1) rfl ?_
  refine s_getf H d3_1 (mem (i := 13) rfl) (i := 4) (j := 1) rfl rfl (pc' := 4) rfl ?_
  refine s_iloadn H d3_4 rfl (pc' := 5) rfl ?_
  refine s_aloadn H d3_5 rfl rfl (pc' := 6) rfl ?_
  refine s_getf H d3_6 (mem (i := 11) rfl) (i := 4) (j := 0) rfl rfl (pc' := 9) rfl ?_
  obtain ⟨l1, e_l1, hm⟩ := own_bnd hm
  refine s_iastore H d3_9 (i := 3) rfl (pt_ok e_l1).1 (jn := (eg).toNatClampNeg) rfl (pt_ok e_l1).2.1 (pc' := 10) rfl ?_
  rw [(pt_ok e_l1).2.2]
  show Go Z k 0 0 ((da, ArI Z .boolean d) :: (pa, ArI Z .int p) :: (ra, ArI Z .int r) :: (la, ArI Z .int l1) :: (ta, Obj Z "com/example/rekha/rekha/ActiveEdges" [("com/example/rekha/rekha/ActiveEdges", "nil", "I", (.int nl)), ("com/example/rekha/rekha/ActiveEdges", "left", "[I", (.ref la)), ("com/example/rekha/rekha/ActiveEdges", "right", "[I", (.ref ra)), ("com/example/rekha/rekha/ActiveEdges", "parent", "[I", (.ref pa)), ("com/example/rekha/rekha/ActiveEdges", "red", "[Z", (.ref da)), ("com/example/rekha/rekha/ActiveEdges", "root", "I", (.int root))]) :: F) 10 #[.val (.ref ta), .val (.int eg), .val (.int ab), .unset] []
  refine s_aloadn H d3_10 rfl rfl (pc' := 11) rfl ?_
  refine s_getf H d3_11 (mem (i := 15) rfl) (i := 4) (j := 2) rfl rfl (pc' := 14) rfl ?_
  refine s_iloadn H d3_14 rfl (pc' := 15) rfl ?_
  refine s_aloadn H d3_15 rfl rfl (pc' := 16) rfl ?_
  refine s_getf H d3_16 (mem (i := 11) rfl) (i := 4) (j := 0) rfl rfl (pc' := 19) rfl ?_
  obtain ⟨l2, e_l2, hm⟩ := own_bnd hm
  refine s_iastore H d3_19 (i := 2) rfl (pt_ok e_l2).1 (jn := (eg).toNatClampNeg) rfl (pt_ok e_l2).2.1 (pc' := 20) rfl ?_
  rw [(pt_ok e_l2).2.2]
  show Go Z k 0 0 ((da, ArI Z .boolean d) :: (pa, ArI Z .int p) :: (ra, ArI Z .int l2) :: (la, ArI Z .int l1) :: (ta, Obj Z "com/example/rekha/rekha/ActiveEdges" [("com/example/rekha/rekha/ActiveEdges", "nil", "I", (.int nl)), ("com/example/rekha/rekha/ActiveEdges", "left", "[I", (.ref la)), ("com/example/rekha/rekha/ActiveEdges", "right", "[I", (.ref ra)), ("com/example/rekha/rekha/ActiveEdges", "parent", "[I", (.ref pa)), ("com/example/rekha/rekha/ActiveEdges", "red", "[Z", (.ref da)), ("com/example/rekha/rekha/ActiveEdges", "root", "I", (.int root))]) :: F) 20 #[.val (.ref ta), .val (.int eg), .val (.int ab), .unset] []
  refine s_aloadn H d3_20 rfl rfl (pc' := 21) rfl ?_
  refine s_getf H d3_21 (mem (i := 20) rfl) (i := 4) (j := 4) rfl rfl (pc' := 24) rfl ?_
  refine s_iloadn H d3_24 rfl (pc' := 25) rfl ?_
  refine s_iconst H d3_25 (z := (1 : Int32)) (by decide) (pc' := 26) rfl ?_
  obtain ⟨l3, e_l3, hm⟩ := own_bnd hm
  refine s_zastore H d3_26 (i := 0) rfl (pt_ok e_l3).1 (jn := (eg).toNatClampNeg) rfl (pt_ok e_l3).2.1 (x := (1 : Int32)) (by decide) (pc' := 27) rfl ?_
  rw [(pt_ok e_l3).2.2]
  show Go Z k 0 0 ((da, ArI Z .boolean l3) :: (pa, ArI Z .int p) :: (ra, ArI Z .int l2) :: (la, ArI Z .int l1) :: (ta, Obj Z "com/example/rekha/rekha/ActiveEdges" [("com/example/rekha/rekha/ActiveEdges", "nil", "I", (.int nl)), ("com/example/rekha/rekha/ActiveEdges", "left", "[I", (.ref la)), ("com/example/rekha/rekha/ActiveEdges", "right", "[I", (.ref ra)), ("com/example/rekha/rekha/ActiveEdges", "parent", "[I", (.ref pa)), ("com/example/rekha/rekha/ActiveEdges", "red", "[Z", (.ref da)), ("com/example/rekha/rekha/ActiveEdges", "root", "I", (.int root))]) :: F) 27 #[.val (.ref ta), .val (.int eg), .val (.int ab), .unset] []
  refine s_aloadn H d3_27 rfl rfl (pc' := 28) rfl ?_
  refine s_getf H d3_28 (mem (i := 22) rfl) (i := 4) (j := 5) rfl rfl (pc' := 31) rfl ?_
  refine s_aloadn H d3_31 rfl rfl (pc' := 32) rfl ?_
  refine s_getf H d3_32 (mem (i := 11) rfl) (i := 4) (j := 0) rfl rfl (pc' := 35) rfl ?_
  refine s_icmp H d3_35 (py := 56) (pc' := 38) q_ne (by decide) rfl (fun c35 => ?_) (fun c35 => ?_)
  · replace hm := own_ifp c35 hm
    refine s_iloadn H d3_56 rfl (pc' := 57) rfl ?_
    refine s_aloadn H d3_57 rfl rfl (pc' := 58) rfl ?_
    refine s_getf H d3_58 (mem (i := 11) rfl) (i := 4) (j := 0) rfl rfl (pc' := 61) rfl ?_
    refine s_icmp H d3_61 (py := 90) (pc' := 64) q_ne (by decide) rfl (fun c61 => ?_) (fun c61 => ?_)
    · replace hm := own_ifp c61 hm
      refine s_aloadn H d3_90 rfl rfl (pc' := 91) rfl ?_
      refine s_getf H d3_91 (mem (i := 13) rfl) (i := 4) (j := 1) rfl rfl (pc' := 94) rfl ?_
      refine s_iloadn H d3_94 rfl (pc' := 95) rfl ?_
      obtain ⟨a4, e_a4, hm⟩ := own_bnd hm
      refine s_iaload H d3_95 (i := 3) rfl (x := a4) (gt_ok e_a4).1 (jn := (ab).toNatClampNeg) rfl (gt_ok e_a4).2 (pc' := 96) rfl ?_
      refine s_aloadn H d3_96 rfl rfl (pc' := 97) rfl ?_
      refine s_getf H d3_97 (mem (i := 11) rfl) (i := 4) (j := 0) rfl rfl (pc' := 100) rfl ?_
      refine s_icmp H d3_100 (py := 120) (pc' := 103) q_ne (by decide) rfl (fun c100 => ?_) (fun c100 => ?_)
      · replace hm := own_ifp c100 hm
        refine s_aloadn H d3_120 rfl rfl (pc' := 121) rfl ?_
        refine s_aloadn H d3_121 rfl rfl (pc' := 122) rfl ?_
        refine s_getf H d3_122 (mem (i := 13) rfl) (i := 4) (j := 1) rfl rfl (pc' := 125) rfl ?_
        refine s_iloadn H d3_125 rfl (pc' := 126) rfl ?_
        obtain ⟨a5, e_a5, hm⟩ := own_bnd hm
        refine s_iaload H d3_126 (i := 3) rfl (x := a5) (gt_ok e_a5).1 (jn := (ab).toNatClampNeg) rfl (gt_ok e_a5).2 (pc' := 127) rfl ?_
        obtain ⟨t6, e_t6, hm⟩ := own_bnd hm
        refine s_priv H (met_rm H.tb ta la ra pa da a5 e_t6) d3_127 (i := 4) rfl (mem (i := 54) rfl) (mem (i := 56) rfl) (mem (i := 27) rfl) rfl (mem (i := 55) rfl) (mem (i := 4) rfl) (mem (i := 57) rfl) (by decide) pd_10 rfl (rest := []) rfl rfl (by decide) (Nat.le_of_ble_eq_true rfl) (cn' := 0) (sn' := 0) rfl rfl (by decide) (by decide) (pc' := 130) rfl (fun v0 M0 hq => ?_)
        obtain ⟨rfl, hm0⟩ := hq
        subst M0
        show Go Z k 0 0 ((da, ArI Z .boolean l3) :: (pa, ArI Z .int p) :: (ra, ArI Z .int l2) :: (la, ArI Z .int l1) :: (ta, Obj Z "com/example/rekha/rekha/ActiveEdges" [("com/example/rekha/rekha/ActiveEdges", "nil", "I", (.int nl)), ("com/example/rekha/rekha/ActiveEdges", "left", "[I", (.ref la)), ("com/example/rekha/rekha/ActiveEdges", "right", "[I", (.ref ra)), ("com/example/rekha/rekha/ActiveEdges", "parent", "[I", (.ref pa)), ("com/example/rekha/rekha/ActiveEdges", "red", "[Z", (.ref da)), ("com/example/rekha/rekha/ActiveEdges", "root", "I", (.int root))]) :: F) 130 #[.val (.ref ta), .val (.int eg), .val (.int ab), .unset] [(.int t6)]
        refine s_istoren H d3_130 (L' := fun z => #[.val (.ref ta), .val (.int eg), .val (.int ab), .val (.int z)]) (fun _ => rfl) (pc' := 131) rfl (fun z0 hz => ?_)
        subst z0
        refine s_aloadn H d3_131 rfl rfl (pc' := 132) rfl ?_
        refine s_getf H d3_132 (mem (i := 15) rfl) (i := 4) (j := 2) rfl rfl (pc' := 135) rfl ?_
        refine s_iloadn H d3_135 rfl (pc' := 136) rfl ?_
        refine s_iloadn H d3_136 rfl (pc' := 137) rfl ?_
        obtain ⟨l7, e_l7, hm⟩ := own_bnd hm
        refine s_iastore H d3_137 (i := 2) rfl (pt_ok e_l7).1 (jn := (t6).toNatClampNeg) rfl (pt_ok e_l7).2.1 (pc' := 138) rfl ?_
        rw [(pt_ok e_l7).2.2]
        show Go Z k 0 0 ((da, ArI Z .boolean l3) :: (pa, ArI Z .int p) :: (ra, ArI Z .int l7) :: (la, ArI Z .int l1) :: (ta, Obj Z "com/example/rekha/rekha/ActiveEdges" [("com/example/rekha/rekha/ActiveEdges", "nil", "I", (.int nl)), ("com/example/rekha/rekha/ActiveEdges", "left", "[I", (.ref la)), ("com/example/rekha/rekha/ActiveEdges", "right", "[I", (.ref ra)), ("com/example/rekha/rekha/ActiveEdges", "parent", "[I", (.ref pa)), ("com/example/rekha/rekha/ActiveEdges", "red", "[Z", (.ref da)), ("com/example/rekha/rekha/ActiveEdges", "root", "I", (.int root))]) :: F) 138 #[.val (.ref ta), .val (.int eg), .val (.int ab), .val (.int t6)] []
        refine s_aloadn H d3_138 rfl rfl (pc' := 139) rfl ?_
        refine s_getf H d3_139 (mem (i := 17) rfl) (i := 4) (j := 3) rfl rfl (pc' := 142) rfl ?_
        refine s_iloadn H d3_142 rfl (pc' := 143) rfl ?_
        refine s_iloadn H d3_143 rfl (pc' := 144) rfl ?_
        obtain ⟨l8, e_l8, hm⟩ := own_bnd hm
        refine s_iastore H d3_144 (i := 1) rfl (pt_ok e_l8).1 (jn := (eg).toNatClampNeg) rfl (pt_ok e_l8).2.1 (pc' := 145) rfl ?_
        rw [(pt_ok e_l8).2.2]
        show Go Z k 0 0 ((da, ArI Z .boolean l3) :: (pa, ArI Z .int l8) :: (ra, ArI Z .int l7) :: (la, ArI Z .int l1) :: (ta, Obj Z "com/example/rekha/rekha/ActiveEdges" [("com/example/rekha/rekha/ActiveEdges", "nil", "I", (.int nl)), ("com/example/rekha/rekha/ActiveEdges", "left", "[I", (.ref la)), ("com/example/rekha/rekha/ActiveEdges", "right", "[I", (.ref ra)), ("com/example/rekha/rekha/ActiveEdges", "parent", "[I", (.ref pa)), ("com/example/rekha/rekha/ActiveEdges", "red", "[Z", (.ref da)), ("com/example/rekha/rekha/ActiveEdges", "root", "I", (.int root))]) :: F) 145 #[.val (.ref ta), .val (.int eg), .val (.int ab), .val (.int t6)] []
        refine s_aloadn H d3_145 rfl rfl (pc' := 146) rfl ?_
        refine s_iloadn H d3_146 rfl (pc' := 147) rfl ?_
        obtain ⟨t9, e_t9, hm⟩ := own_bnd hm
        refine s_priv H (met_ai H.tb ta la ra pa da eg e_t9) d3_147 (i := 4) rfl (mem (i := 29) rfl) (mem (i := 31) rfl) (mem (i := 27) rfl) rfl (mem (i := 30) rfl) (mem (i := 4) rfl) (mem (i := 32) rfl) (by decide) pd_4 rfl (rest := []) rfl rfl (by decide) (Nat.le_of_ble_eq_true rfl) (cn' := 0) (sn' := 0) rfl rfl (by decide) (by decide) (pc' := 150) rfl (fun v0 M0 hq => ?_)
        obtain ⟨rfl, hm0⟩ := hq
        subst M0
        show Go Z k 0 0 ((da, ArI Z .boolean t9.d) :: (pa, ArI Z .int t9.p) :: (ra, ArI Z .int t9.r) :: (la, ArI Z .int t9.l) :: (ta, Obj Z "com/example/rekha/rekha/ActiveEdges" [("com/example/rekha/rekha/ActiveEdges", "nil", "I", (.int nl)), ("com/example/rekha/rekha/ActiveEdges", "left", "[I", (.ref la)), ("com/example/rekha/rekha/ActiveEdges", "right", "[I", (.ref ra)), ("com/example/rekha/rekha/ActiveEdges", "parent", "[I", (.ref pa)), ("com/example/rekha/rekha/ActiveEdges", "red", "[Z", (.ref da)), ("com/example/rekha/rekha/ActiveEdges", "root", "I", (.int t9.root))]) :: F) 150 #[.val (.ref ta), .val (.int eg), .val (.int ab), .val (.int t6)] []
        refine s_vret H d3_150 (by decide) (by decide) ?_
        obtain rfl := Option.some.inj hm
        exact ⟨rfl, rfl⟩
      · replace hm := own_ifn c100 hm
        refine s_aloadn H d3_103 rfl rfl (pc' := 104) rfl ?_
        refine s_getf H d3_104 (mem (i := 13) rfl) (i := 4) (j := 1) rfl rfl (pc' := 107) rfl ?_
        refine s_iloadn H d3_107 rfl (pc' := 108) rfl ?_
        refine s_iloadn H d3_108 rfl (pc' := 109) rfl ?_
        obtain ⟨l10, e_l10, hm⟩ := own_bnd hm
        refine s_iastore H d3_109 (i := 3) rfl (pt_ok e_l10).1 (jn := (ab).toNatClampNeg) rfl (pt_ok e_l10).2.1 (pc' := 110) rfl ?_
        rw [(pt_ok e_l10).2.2]
        show Go Z k 0 0 ((da, ArI Z .boolean l3) :: (pa, ArI Z .int p) :: (ra, ArI Z .int l2) :: (la, ArI Z .int l10) :: (ta, Obj Z "com/example/rekha/rekha/ActiveEdges" [("com/example/rekha/rekha/ActiveEdges", "nil", "I", (.int nl)), ("com/example/rekha/rekha/ActiveEdges", "left", "[I", (.ref la)), ("com/example/rekha/rekha/ActiveEdges", "right", "[I", (.ref ra)), ("com/example/rekha/rekha/ActiveEdges", "parent", "[I", (.ref pa)), ("com/example/rekha/rekha/ActiveEdges", "red", "[Z", (.ref da)), ("com/example/rekha/rekha/ActiveEdges", "root", "I", (.int root))]) :: F) 110 #[.val (.ref ta), .val (.int eg), .val (.int ab), .unset] []
        refine s_aloadn H d3_110 rfl rfl (pc' := 111) rfl ?_
        refine s_getf H d3_111 (mem (i := 17) rfl) (i := 4) (j := 3) rfl rfl (pc' := 114) rfl ?_
        refine s_iloadn H d3_114 rfl (pc' := 115) rfl ?_
        refine s_iloadn H d3_115 rfl (pc' := 116) rfl ?_
        obtain ⟨l11, e_l11, hm⟩ := own_bnd hm
        refine s_iastore H d3_116 (i := 1) rfl (pt_ok e_l11).1 (jn := (eg).toNatClampNeg) rfl (pt_ok e_l11).2.1 (pc' := 117) rfl ?_
        rw [(pt_ok e_l11).2.2]
        show Go Z k 0 0 ((da, ArI Z .boolean l3) :: (pa, ArI Z .int l11) :: (ra, ArI Z .int l2) :: (la, ArI Z .int l10) :: (ta, Obj Z "com/example/rekha/rekha/ActiveEdges" [("com/example/rekha/rekha/ActiveEdges", "nil", "I", (.int nl)), ("com/example/rekha/rekha/ActiveEdges", "left", "[I", (.ref la)), ("com/example/rekha/rekha/ActiveEdges", "right", "[I", (.ref ra)), ("com/example/rekha/rekha/ActiveEdges", "parent", "[I", (.ref pa)), ("com/example/rekha/rekha/ActiveEdges", "red", "[Z", (.ref da)), ("com/example/rekha/rekha/ActiveEdges", "root", "I", (.int root))]) :: F) 117 #[.val (.ref ta), .val (.int eg), .val (.int ab), .unset] []
        refine s_goto H d3_117 (pc' := 145) (by decide) ?_
        refine s_aloadn H d3_145 rfl rfl (pc' := 146) rfl ?_
        refine s_iloadn H d3_146 rfl (pc' := 147) rfl ?_
        obtain ⟨t12, e_t12, hm⟩ := own_bnd hm
        refine s_priv H (met_ai H.tb ta la ra pa da eg e_t12) d3_147 (i := 4) rfl (mem (i := 29) rfl) (mem (i := 31) rfl) (mem (i := 27) rfl) rfl (mem (i := 30) rfl) (mem (i := 4) rfl) (mem (i := 32) rfl) (by decide) pd_4 rfl (rest := []) rfl rfl (by decide) (Nat.le_of_ble_eq_true rfl) (cn' := 0) (sn' := 0) rfl rfl (by decide) (by decide) (pc' := 150) rfl (fun v0 M0 hq => ?_)
        obtain ⟨rfl, hm0⟩ := hq
        subst M0
        show Go Z k 0 0 ((da, ArI Z .boolean t12.d) :: (pa, ArI Z .int t12.p) :: (ra, ArI Z .int t12.r) :: (la, ArI Z .int t12.l) :: (ta, Obj Z "com/example/rekha/rekha/ActiveEdges" [("com/example/rekha/rekha/ActiveEdges", "nil", "I", (.int nl)), ("com/example/rekha/rekha/ActiveEdges", "left", "[I", (.ref la)), ("com/example/rekha/rekha/ActiveEdges", "right", "[I", (.ref ra)), ("com/example/rekha/rekha/ActiveEdges", "parent", "[I", (.ref pa)), ("com/example/rekha/rekha/ActiveEdges", "red", "[Z", (.ref da)), ("com/example/rekha/rekha/ActiveEdges", "root", "I", (.int t12.root))]) :: F) 150 #[.val (.ref ta), .val (.int eg), .val (.int ab), .unset] []
        refine s_vret H d3_150 (by decide) (by decide) ?_
        obtain rfl := Option.some.inj hm
        exact ⟨rfl, rfl⟩
    · replace hm := own_ifn c61 hm
      refine s_aloadn H d3_64 rfl rfl (pc' := 65) rfl ?_
      refine s_aloadn H d3_65 rfl rfl (pc' := 66) rfl ?_
      refine s_getf H d3_66 (mem (i := 22) rfl) (i := 4) (j := 5) rfl rfl (pc' := 69) rfl ?_
      obtain ⟨t13, e_t13, hm⟩ := own_bnd hm
      refine s_priv H (met_rm H.tb ta la ra pa da root e_t13) d3_69 (i := 4) rfl (mem (i := 54) rfl) (mem (i := 56) rfl) (mem (i := 27) rfl) rfl (mem (i := 55) rfl) (mem (i := 4) rfl) (mem (i := 57) rfl) (by decide) pd_10 rfl (rest := []) rfl rfl (by decide) (Nat.le_of_ble_eq_true rfl) (cn' := 0) (sn' := 0) rfl rfl (by decide) (by decide) (pc' := 72) rfl (fun v0 M0 hq => ?_)
      obtain ⟨rfl, hm0⟩ := hq
      subst M0
      show Go Z k 0 0 ((da, ArI Z .boolean l3) :: (pa, ArI Z .int p) :: (ra, ArI Z .int l2) :: (la, ArI Z .int l1) :: (ta, Obj Z "com/example/rekha/rekha/ActiveEdges" [("com/example/rekha/rekha/ActiveEdges", "nil", "I", (.int nl)), ("com/example/rekha/rekha/ActiveEdges", "left", "[I", (.ref la)), ("com/example/rekha/rekha/ActiveEdges", "right", "[I", (.ref ra)), ("com/example/rekha/rekha/ActiveEdges", "parent", "[I", (.ref pa)), ("com/example/rekha/rekha/ActiveEdges", "red", "[Z", (.ref da)), ("com/example/rekha/rekha/ActiveEdges", "root", "I", (.int root))]) :: F) 72 #[.val (.ref ta), .val (.int eg), .val (.int ab), .unset] [(.int t13)]
      refine s_istoren H d3_72 (L' := fun z => #[.val (.ref ta), .val (.int eg), .val (.int ab), .val (.int z)]) (fun _ => rfl) (pc' := 73) rfl (fun z0 hz => ?_)
      subst z0
      refine s_aloadn H d3_73 rfl rfl (pc' := 74) rfl ?_
      refine s_getf H d3_74 (mem (i := 15) rfl) (i := 4) (j := 2) rfl rfl (pc' := 77) rfl ?_
      refine s_iloadn H d3_77 rfl (pc' := 78) rfl ?_
      refine s_iloadn H d3_78 rfl (pc' := 79) rfl ?_
      obtain ⟨l14, e_l14, hm⟩ := own_bnd hm
      refine s_iastore H d3_79 (i := 2) rfl (pt_ok e_l14).1 (jn := (t13).toNatClampNeg) rfl (pt_ok e_l14).2.1 (pc' := 80) rfl ?_
      rw [(pt_ok e_l14).2.2]
      show Go Z k 0 0 ((da, ArI Z .boolean l3) :: (pa, ArI Z .int p) :: (ra, ArI Z .int l14) :: (la, ArI Z .int l1) :: (ta, Obj Z "com/example/rekha/rekha/ActiveEdges" [("com/example/rekha/rekha/ActiveEdges", "nil", "I", (.int nl)), ("com/example/rekha/rekha/ActiveEdges", "left", "[I", (.ref la)), ("com/example/rekha/rekha/ActiveEdges", "right", "[I", (.ref ra)), ("com/example/rekha/rekha/ActiveEdges", "parent", "[I", (.ref pa)), ("com/example/rekha/rekha/ActiveEdges", "red", "[Z", (.ref da)), ("com/example/rekha/rekha/ActiveEdges", "root", "I", (.int root))]) :: F) 80 #[.val (.ref ta), .val (.int eg), .val (.int ab), .val (.int t13)] []
      refine s_aloadn H d3_80 rfl rfl (pc' := 81) rfl ?_
      refine s_getf H d3_81 (mem (i := 17) rfl) (i := 4) (j := 3) rfl rfl (pc' := 84) rfl ?_
      refine s_iloadn H d3_84 rfl (pc' := 85) rfl ?_
      refine s_iloadn H d3_85 rfl (pc' := 86) rfl ?_
      obtain ⟨l15, e_l15, hm⟩ := own_bnd hm
      refine s_iastore H d3_86 (i := 1) rfl (pt_ok e_l15).1 (jn := (eg).toNatClampNeg) rfl (pt_ok e_l15).2.1 (pc' := 87) rfl ?_
      rw [(pt_ok e_l15).2.2]
      show Go Z k 0 0 ((da, ArI Z .boolean l3) :: (pa, ArI Z .int l15) :: (ra, ArI Z .int l14) :: (la, ArI Z .int l1) :: (ta, Obj Z "com/example/rekha/rekha/ActiveEdges" [("com/example/rekha/rekha/ActiveEdges", "nil", "I", (.int nl)), ("com/example/rekha/rekha/ActiveEdges", "left", "[I", (.ref la)), ("com/example/rekha/rekha/ActiveEdges", "right", "[I", (.ref ra)), ("com/example/rekha/rekha/ActiveEdges", "parent", "[I", (.ref pa)), ("com/example/rekha/rekha/ActiveEdges", "red", "[Z", (.ref da)), ("com/example/rekha/rekha/ActiveEdges", "root", "I", (.int root))]) :: F) 87 #[.val (.ref ta), .val (.int eg), .val (.int ab), .val (.int t13)] []
      refine s_goto H d3_87 (pc' := 145) (by decide) ?_
      refine s_aloadn H d3_145 rfl rfl (pc' := 146) rfl ?_
      refine s_iloadn H d3_146 rfl (pc' := 147) rfl ?_
      obtain ⟨t16, e_t16, hm⟩ := own_bnd hm
      refine s_priv H (met_ai H.tb ta la ra pa da eg e_t16) d3_147 (i := 4) rfl (mem (i := 29) rfl) (mem (i := 31) rfl) (mem (i := 27) rfl) rfl (mem (i := 30) rfl) (mem (i := 4) rfl) (mem (i := 32) rfl) (by decide) pd_4 rfl (rest := []) rfl rfl (by decide) (Nat.le_of_ble_eq_true rfl) (cn' := 0) (sn' := 0) rfl rfl (by decide) (by decide) (pc' := 150) rfl (fun v0 M0 hq => ?_)
      obtain ⟨rfl, hm0⟩ := hq
      subst M0
      show Go Z k 0 0 ((da, ArI Z .boolean t16.d) :: (pa, ArI Z .int t16.p) :: (ra, ArI Z .int t16.r) :: (la, ArI Z .int t16.l) :: (ta, Obj Z "com/example/rekha/rekha/ActiveEdges" [("com/example/rekha/rekha/ActiveEdges", "nil", "I", (.int nl)), ("com/example/rekha/rekha/ActiveEdges", "left", "[I", (.ref la)), ("com/example/rekha/rekha/ActiveEdges", "right", "[I", (.ref ra)), ("com/example/rekha/rekha/ActiveEdges", "parent", "[I", (.ref pa)), ("com/example/rekha/rekha/ActiveEdges", "red", "[Z", (.ref da)), ("com/example/rekha/rekha/ActiveEdges", "root", "I", (.int t16.root))]) :: F) 150 #[.val (.ref ta), .val (.int eg), .val (.int ab), .val (.int t13)] []
      refine s_vret H d3_150 (by decide) (by decide) ?_
      obtain rfl := Option.some.inj hm
      exact ⟨rfl, rfl⟩
  · replace hm := own_ifn c35 hm
    refine s_aloadn H d3_38 rfl rfl (pc' := 39) rfl ?_
    refine s_getf H d3_39 (mem (i := 17) rfl) (i := 4) (j := 3) rfl rfl (pc' := 42) rfl ?_
    refine s_iloadn H d3_42 rfl (pc' := 43) rfl ?_
    refine s_aloadn H d3_43 rfl rfl (pc' := 44) rfl ?_
    refine s_getf H d3_44 (mem (i := 11) rfl) (i := 4) (j := 0) rfl rfl (pc' := 47) rfl ?_
    obtain ⟨l17, e_l17, hm⟩ := own_bnd hm
    refine s_iastore H d3_47 (i := 1) rfl (pt_ok e_l17).1 (jn := (eg).toNatClampNeg) rfl (pt_ok e_l17).2.1 (pc' := 48) rfl ?_
    rw [(pt_ok e_l17).2.2]
    show Go Z k 0 0 ((da, ArI Z .boolean l3) :: (pa, ArI Z .int l17) :: (ra, ArI Z .int l2) :: (la, ArI Z .int l1) :: (ta, Obj Z "com/example/rekha/rekha/ActiveEdges" [("com/example/rekha/rekha/ActiveEdges", "nil", "I", (.int nl)), ("com/example/rekha/rekha/ActiveEdges", "left", "[I", (.ref la)), ("com/example/rekha/rekha/ActiveEdges", "right", "[I", (.ref ra)), ("com/example/rekha/rekha/ActiveEdges", "parent", "[I", (.ref pa)), ("com/example/rekha/rekha/ActiveEdges", "red", "[Z", (.ref da)), ("com/example/rekha/rekha/ActiveEdges", "root", "I", (.int root))]) :: F) 48 #[.val (.ref ta), .val (.int eg), .val (.int ab), .unset] []
    refine s_aloadn H d3_48 rfl rfl (pc' := 49) rfl ?_
    refine s_iloadn H d3_49 rfl (pc' := 50) rfl ?_
    refine s_putf H d3_50 (mem (i := 22) rfl) (Or.inl (mem (i := 23) rfl)) (mem (i := 3) rfl) (ty := .int) (by decide) rfl rfl (i := 4) (j := 5) rfl rfl (pc' := 53) rfl ?_
    show Go Z k 0 0 ((da, ArI Z .boolean l3) :: (pa, ArI Z .int l17) :: (ra, ArI Z .int l2) :: (la, ArI Z .int l1) :: (ta, Obj Z "com/example/rekha/rekha/ActiveEdges" [("com/example/rekha/rekha/ActiveEdges", "nil", "I", (.int nl)), ("com/example/rekha/rekha/ActiveEdges", "left", "[I", (.ref la)), ("com/example/rekha/rekha/ActiveEdges", "right", "[I", (.ref ra)), ("com/example/rekha/rekha/ActiveEdges", "parent", "[I", (.ref pa)), ("com/example/rekha/rekha/ActiveEdges", "red", "[Z", (.ref da)), ("com/example/rekha/rekha/ActiveEdges", "root", "I", (.int eg))]) :: F) 53 #[.val (.ref ta), .val (.int eg), .val (.int ab), .unset] []
    refine s_goto H d3_53 (pc' := 145) (by decide) ?_
    refine s_aloadn H d3_145 rfl rfl (pc' := 146) rfl ?_
    refine s_iloadn H d3_146 rfl (pc' := 147) rfl ?_
    obtain ⟨t18, e_t18, hm⟩ := own_bnd hm
    refine s_priv H (met_ai H.tb ta la ra pa da eg e_t18) d3_147 (i := 4) rfl (mem (i := 29) rfl) (mem (i := 31) rfl) (mem (i := 27) rfl) rfl (mem (i := 30) rfl) (mem (i := 4) rfl) (mem (i := 32) rfl) (by decide) pd_4 rfl (rest := []) rfl rfl (by decide) (Nat.le_of_ble_eq_true rfl) (cn' := 0) (sn' := 0) rfl rfl (by decide) (by decide) (pc' := 150) rfl (fun v0 M0 hq => ?_)
    obtain ⟨rfl, hm0⟩ := hq
    subst M0
    show Go Z k 0 0 ((da, ArI Z .boolean t18.d) :: (pa, ArI Z .int t18.p) :: (ra, ArI Z .int t18.r) :: (la, ArI Z .int t18.l) :: (ta, Obj Z "com/example/rekha/rekha/ActiveEdges" [("com/example/rekha/rekha/ActiveEdges", "nil", "I", (.int nl)), ("com/example/rekha/rekha/ActiveEdges", "left", "[I", (.ref la)), ("com/example/rekha/rekha/ActiveEdges", "right", "[I", (.ref ra)), ("com/example/rekha/rekha/ActiveEdges", "parent", "[I", (.ref pa)), ("com/example/rekha/rekha/ActiveEdges", "red", "[Z", (.ref da)), ("com/example/rekha/rekha/ActiveEdges", "root", "I", (.int t18.root))]) :: F) 150 #[.val (.ref ta), .val (.int eg), .val (.int ab), .unset] []
    refine s_vret H d3_150 (by decide) (by decide) ?_
    obtain rfl := Option.some.inj hm
    exact ⟨rfl, rfl⟩
def m_nxl (nl : Int32) : Nat → List Int32 → List Int32 → List Int32 → List Int32 → Int32 → Int32 → Int32 → Option Int32
  | 0, _, _, _, _, _, _, _ => none
  | f + 1, l, r, p, d, root, nxt, node => (if nxt = nl then ((some nxt)) else ((gt r nxt).bind fun a1 => (if ¬ node = a1 then ((some nxt)) else ((gt p nxt).bind fun a2 => (m_nxl nl f l r p d root a2 nxt)))))
set_option maxRecDepth 65536 in
set_option maxHeartbeats 40000000 in
theorem lp_nxl {Z : State} {k : Cx} {F : Hp} {nl : Int32} {ta la ra pa da : Addr} {o : Int32} (f : Nat) (l r p d : List Int32) (root nxt node : Int32) (s1 : Slot) (H : Ok Z k ({ frames := 1, cells := 0, slots := 0, locals := 14 } : Room) (fun v M' => v = some (.int o) ∧ M' = ((da, ArI Z .boolean d) :: (pa, ArI Z .int p) :: (ra, ArI Z .int r) :: (la, ArI Z .int l) :: (ta, Obj Z "com/example/rekha/rekha/ActiveEdges" [("com/example/rekha/rekha/ActiveEdges", "nil", "I", (.int nl)), ("com/example/rekha/rekha/ActiveEdges", "left", "[I", (.ref la)), ("com/example/rekha/rekha/ActiveEdges", "right", "[I", (.ref ra)), ("com/example/rekha/rekha/ActiveEdges", "parent", "[I", (.ref pa)), ("com/example/rekha/rekha/ActiveEdges", "red", "[Z", (.ref da)), ("com/example/rekha/rekha/ActiveEdges", "root", "I", (.int root))]) :: F)) y_8 prog_2_method_5_code 4 (some .int)) (hm : m_nxl nl f l r p d root nxt node = some o) : Go Z k 0 0 ((da, ArI Z .boolean d) :: (pa, ArI Z .int p) :: (ra, ArI Z .int r) :: (la, ArI Z .int l) :: (ta, Obj Z "com/example/rekha/rekha/ActiveEdges" [("com/example/rekha/rekha/ActiveEdges", "nil", "I", (.int nl)), ("com/example/rekha/rekha/ActiveEdges", "left", "[I", (.ref la)), ("com/example/rekha/rekha/ActiveEdges", "right", "[I", (.ref ra)), ("com/example/rekha/rekha/ActiveEdges", "parent", "[I", (.ref pa)), ("com/example/rekha/rekha/ActiveEdges", "red", "[Z", (.ref da)), ("com/example/rekha/rekha/ActiveEdges", "root", "I", (.int root))]) :: F) 36 #[.val (.ref ta), s1, .val (.int nxt), .val (.int node)] [] := by
  induction f generalizing nxt node s1 with
  | zero => rw [m_nxl] at hm; cases hm
  | succ f ih =>
    rw [m_nxl] at hm
    refine s_iloadn H d8_36 rfl (pc' := 37) rfl ?_
    refine s_aloadn H d8_37 rfl rfl (pc' := 38) rfl ?_
    refine s_getf H d8_38 (mem (i := 11) rfl) (i := 4) (j := 0) rfl rfl (pc' := 41) rfl ?_
    refine s_icmp H d8_41 (py := 66) (pc' := 44) q_eq (by decide) rfl (fun c41 => ?_) (fun c41 => ?_)
    · replace hm := own_ifp c41 hm
      refine s_iloadn H d8_66 rfl (pc' := 67) rfl ?_
      refine s_iret H d8_67 rfl (Or.inl rfl) (by decide) (by decide) ?_
      obtain rfl := Option.some.inj hm
      exact ⟨rfl, rfl⟩
    · replace hm := own_ifn c41 hm
      refine s_iloadn H d8_44 rfl (pc' := 45) rfl ?_
      refine s_aloadn H d8_45 rfl rfl (pc' := 46) rfl ?_
      refine s_getf H d8_46 (mem (i := 15) rfl) (i := 4) (j := 2) rfl rfl (pc' := 49) rfl ?_
      refine s_iloadn H d8_49 rfl (pc' := 50) rfl ?_
      obtain ⟨a1, e_a1, hm⟩ := own_bnd hm
      refine s_iaload H d8_50 (i := 2) rfl (x := a1) (gt_ok e_a1).1 (jn := (nxt).toNatClampNeg) rfl (gt_ok e_a1).2 (pc' := 51) rfl ?_
      refine s_icmp H d8_51 (py := 66) (pc' := 54) q_ne (by decide) rfl (fun c51 => ?_) (fun c51 => ?_)
      · replace hm := own_ifp c51 hm
        refine s_iloadn H d8_66 rfl (pc' := 67) rfl ?_
        refine s_iret H d8_67 rfl (Or.inl rfl) (by decide) (by decide) ?_
        obtain rfl := Option.some.inj hm
        exact ⟨rfl, rfl⟩
      · replace hm := own_ifn c51 hm
        refine s_iloadn H d8_54 rfl (pc' := 55) rfl ?_
        refine s_istoren H d8_55 (L' := fun z => #[.val (.ref ta), s1, .val (.int nxt), .val (.int z)]) (fun _ => rfl) (pc' := 56) rfl (fun z0 hz => ?_)
        subst z0
        refine s_aloadn H d8_56 rfl rfl (pc' := 57) rfl ?_
        refine s_getf H d8_57 (mem (i := 17) rfl) (i := 4) (j := 3) rfl rfl (pc' := 60) rfl ?_
        refine s_iloadn H d8_60 rfl (pc' := 61) rfl ?_
        obtain ⟨a2, e_a2, hm⟩ := own_bnd hm
        refine s_iaload H d8_61 (i := 1) rfl (x := a2) (gt_ok e_a2).1 (jn := (nxt).toNatClampNeg) rfl (gt_ok e_a2).2 (pc' := 62) rfl ?_
        refine s_istoren H d8_62 (L' := fun z => #[.val (.ref ta), s1, .val (.int z), .val (.int nxt)]) (fun _ => rfl) (pc' := 63) rfl (fun z0 hz => ?_)
        subst z0
        refine s_goto H d8_63 (pc' := 36) (by decide) ?_
        exact ih _ _ _ hm
def m_nx (nl : Int32) (l r p d : List Int32) (root : Int32) (eg : Int32) : Option Int32 := (gt r eg).bind fun a1 => (if a1 = nl then ((gt p eg).bind fun a2 => (m_nxl nl 8 l r p d root a2 eg)) else ((gt r eg).bind fun a3 => (m_lm nl l r p d root a3).bind fun t4 => (some t4)))
set_option maxRecDepth 65536 in
set_option maxHeartbeats 40000000 in
theorem met_nx {Z : State} (HT : Tb Z) {F : Hp} {nl root : Int32} {l r p d : List Int32} (ta la ra pa da : Addr) (eg : Int32) {o : Int32} (hm : m_nx nl l r p d root eg = some o) : Met Z y_8 prog_2_method_5_code 4 (some .int) ({ frames := 1, cells := 0, slots := 0, locals := 14 } : Room) [(.ref ta), (.int eg)] ((da, ArI Z .boolean d) :: (pa, ArI Z .int p) :: (ra, ArI Z .int r) :: (la, ArI Z .int l) :: (ta, Obj Z "com/example/rekha/rekha/ActiveEdges" [("com/example/rekha/rekha/ActiveEdges", "nil", "I", (.int nl)), ("com/example/rekha/rekha/ActiveEdges", "left", "[I", (.ref la)), ("com/example/rekha/rekha/ActiveEdges", "right", "[I", (.ref ra)), ("com/example/rekha/rekha/ActiveEdges", "parent", "[I", (.ref pa)), ("com/example/rekha/rekha/ActiveEdges", "red", "[Z", (.ref da)), ("com/example/rekha/rekha/ActiveEdges", "root", "I", (.int root))]) :: F) (fun v M' => v = some (.int o) ∧ M' = ((da, ArI Z .boolean d) :: (pa, ArI Z .int p) :: (ra, ArI Z .int r) :: (la, ArI Z .int l) :: (ta, Obj Z "com/example/rekha/rekha/ActiveEdges" [("com/example/rekha/rekha/ActiveEdges", "nil", "I", (.int nl)), ("com/example/rekha/rekha/ActiveEdges", "left", "[I", (.ref la)), ("com/example/rekha/rekha/ActiveEdges", "right", "[I", (.ref ra)), ("com/example/rekha/rekha/ActiveEdges", "parent", "[I", (.ref pa)), ("com/example/rekha/rekha/ActiveEdges", "red", "[Z", (.ref da)), ("com/example/rekha/rekha/ActiveEdges", "root", "I", (.int root))]) :: F)) := by
  refine Met.of HT pl_8 (Ls := #[.val (.ref ta), .val (.int eg), .unset, .unset]) (fun m => by first | (simp [entryFrame, mkF, argsToLocals, Value.category]; done) | rfl) (fun k H => ?_)
  unfold m_nx at hm
  refine s_aloadn H d8_0 rfl rfl (pc' := 1) rfl ?_
  refine s_getf H d8_1 (mem (i := 15) rfl) (i := 4) (j := 2) rfl rfl (pc' := 4) rfl ?_
  refine s_iloadn H d8_4 rfl (pc' := 5) rfl ?_
  obtain ⟨a1, e_a1, hm⟩ := own_bnd hm
  refine s_iaload H d8_5 (i := 2) rfl (x := a1) (gt_ok e_a1).1 (jn := (eg).toNatClampNeg) rfl (gt_ok e_a1).2 (pc' := 6) rfl ?_
  refine s_aloadn H d8_6 rfl rfl (pc' := 7) rfl ?_
  refine s_getf H d8_7 (mem (i := 11) rfl) (i := 4) (j := 0) rfl rfl (pc' := 10) rfl ?_
  refine s_icmp H d8_10 (py := 27) (pc' := 13) q_eq (by decide) rfl (fun c10 => ?_) (fun c10 => ?_)
  · replace hm := own_ifp c10 hm
    refine s_iloadn H d8_27 rfl (pc' := 28) rfl ?_
    refine s_istoren H d8_28 (L' := fun z => #[.val (.ref ta), .val (.int eg), .unset, .val (.int z)]) (fun _ => rfl) (pc' := 29) rfl (fun z0 hz => ?_)
    subst z0
    refine s_aloadn H d8_29 rfl rfl (pc' := 30) rfl ?_
    refine s_getf H d8_30 (mem (i := 17) rfl) (i := 4) (j := 3) rfl rfl (pc' := 33) rfl ?_
    refine s_iloadn H d8_33 rfl (pc' := 34) rfl ?_
    obtain ⟨a2, e_a2, hm⟩ := own_bnd hm
    refine s_iaload H d8_34 (i := 1) rfl (x := a2) (gt_ok e_a2).1 (jn := (eg).toNatClampNeg) rfl (gt_ok e_a2).2 (pc' := 35) rfl ?_
    refine s_istoren H d8_35 (L' := fun z => #[.val (.ref ta), .val (.int eg), .val (.int z), .val (.int eg)]) (fun _ => rfl) (pc' := 36) rfl (fun z0 hz => ?_)
    subst z0
    exact lp_nxl _ _ _ _ _ _ _ _ _ H hm
  · replace hm := own_ifn c10 hm
    refine s_aloadn H d8_13 rfl rfl (pc' := 14) rfl ?_
    refine s_aloadn H d8_14 rfl rfl (pc' := 15) rfl ?_
    refine s_getf H d8_15 (mem (i := 15) rfl) (i := 4) (j := 2) rfl rfl (pc' := 18) rfl ?_
    refine s_iloadn H d8_18 rfl (pc' := 19) rfl ?_
    obtain ⟨a3, e_a3, hm⟩ := own_bnd hm
    refine s_iaload H d8_19 (i := 2) rfl (x := a3) (gt_ok e_a3).1 (jn := (eg).toNatClampNeg) rfl (gt_ok e_a3).2 (pc' := 20) rfl ?_
    obtain ⟨t4, e_t4, hm⟩ := own_bnd hm
    refine s_priv H (met_lm H.tb ta la ra pa da a3 e_t4) d8_20 (i := 4) rfl (mem (i := 50) rfl) (mem (i := 52) rfl) (mem (i := 27) rfl) rfl (mem (i := 51) rfl) (mem (i := 4) rfl) (mem (i := 53) rfl) (by decide) pd_9 rfl (rest := []) rfl rfl (by decide) (Nat.le_of_ble_eq_true rfl) (cn' := 0) (sn' := 0) rfl rfl (by decide) (by decide) (pc' := 23) rfl (fun v0 M0 hq => ?_)
    obtain ⟨rfl, hm0⟩ := hq
    subst M0
    show Go Z k 0 0 ((da, ArI Z .boolean d) :: (pa, ArI Z .int p) :: (ra, ArI Z .int r) :: (la, ArI Z .int l) :: (ta, Obj Z "com/example/rekha/rekha/ActiveEdges" [("com/example/rekha/rekha/ActiveEdges", "nil", "I", (.int nl)), ("com/example/rekha/rekha/ActiveEdges", "left", "[I", (.ref la)), ("com/example/rekha/rekha/ActiveEdges", "right", "[I", (.ref ra)), ("com/example/rekha/rekha/ActiveEdges", "parent", "[I", (.ref pa)), ("com/example/rekha/rekha/ActiveEdges", "red", "[Z", (.ref da)), ("com/example/rekha/rekha/ActiveEdges", "root", "I", (.int root))]) :: F) 23 #[.val (.ref ta), .val (.int eg), .unset, .unset] [(.int t4)]
    refine s_istoren H d8_23 (L' := fun z => #[.val (.ref ta), .val (.int eg), .val (.int z), .unset]) (fun _ => rfl) (pc' := 24) rfl (fun z0 hz => ?_)
    subst z0
    refine s_goto H d8_24 (pc' := 66) (by decide) ?_
    refine s_iloadn H d8_66 rfl (pc' := 67) rfl ?_
    refine s_iret H d8_67 rfl (Or.inl rfl) (by decide) (by decide) ?_
    obtain rfl := Option.some.inj hm
    exact ⟨rfl, rfl⟩
set_option maxRecDepth 65536 in
set_option maxHeartbeats 40000000 in
theorem met_in {Z : State} (HT : Tb Z) {F : Hp} (ta : Addr) (nl : Int32) (h0 : ¬ nl + (1 : Int32) < 0) (hc : (nl + (1 : Int32)).toNatClampNeg ≤ 8) : Met Z y_1 prog_2_method_1_code 2 none ({ frames := 1, cells := 4, slots := 32, locals := 12 } : Room) [(.ref ta), (.int nl)] ((ta, Obj Z "com/example/rekha/rekha/ActiveEdges" [("com/example/rekha/rekha/ActiveEdges", "nil", "I", (.int (0 : Int32))), ("com/example/rekha/rekha/ActiveEdges", "left", "[I", .null), ("com/example/rekha/rekha/ActiveEdges", "right", "[I", .null), ("com/example/rekha/rekha/ActiveEdges", "parent", "[I", .null), ("com/example/rekha/rekha/ActiveEdges", "red", "[Z", .null), ("com/example/rekha/rekha/ActiveEdges", "root", "I", (.int (0 : Int32)))]) :: F) (fun v M' => ∃ la ra pa da : Addr, v = none ∧ M' = ((da, ArI Z .boolean (List.replicate (nl + (1 : Int32)).toNatClampNeg 0)) :: (pa, ArI Z .int (List.replicate (nl + (1 : Int32)).toNatClampNeg 0)) :: (ra, ArI Z .int (List.replicate (nl + (1 : Int32)).toNatClampNeg 0)) :: (la, ArI Z .int (List.replicate (nl + (1 : Int32)).toNatClampNeg 0)) :: (ta, Obj Z "com/example/rekha/rekha/ActiveEdges" [("com/example/rekha/rekha/ActiveEdges", "nil", "I", (.int nl)), ("com/example/rekha/rekha/ActiveEdges", "left", "[I", (.ref la)), ("com/example/rekha/rekha/ActiveEdges", "right", "[I", (.ref ra)), ("com/example/rekha/rekha/ActiveEdges", "parent", "[I", (.ref pa)), ("com/example/rekha/rekha/ActiveEdges", "red", "[Z", (.ref da)), ("com/example/rekha/rekha/ActiveEdges", "root", "I", (.int nl))]) :: F)) := by
  refine Met.of HT pl_1 (Ls := #[.val (.ref ta), .val (.int nl)]) (fun m => by first | (simp [entryFrame, mkF, argsToLocals, Value.category]; done) | rfl) (fun k H => ?_)
  refine s_aloadn H d1_0 rfl rfl (pc' := 1) rfl ?_
  refine s_objinit H d1_1 (mem (i := 8) rfl) (mem (i := 9) rfl) (mem (i := 10) rfl) rfl (by decide) (Nat.le_of_ble_eq_true rfl) (pc' := 4) rfl ?_
  refine s_aloadn H d1_4 rfl rfl (pc' := 5) rfl ?_
  refine s_iloadn H d1_5 rfl (pc' := 6) rfl ?_
  refine s_putf H d1_6 (mem (i := 11) rfl) (Or.inr ⟨(mem (i := 12) rfl), rfl, rfl⟩) (mem (i := 3) rfl) (ty := .int) (by decide) rfl rfl (i := 0) (j := 0) rfl rfl (pc' := 9) rfl ?_
  show Go Z k 0 0 ((ta, Obj Z "com/example/rekha/rekha/ActiveEdges" [("com/example/rekha/rekha/ActiveEdges", "nil", "I", (.int nl)), ("com/example/rekha/rekha/ActiveEdges", "left", "[I", .null), ("com/example/rekha/rekha/ActiveEdges", "right", "[I", .null), ("com/example/rekha/rekha/ActiveEdges", "parent", "[I", .null), ("com/example/rekha/rekha/ActiveEdges", "red", "[Z", .null), ("com/example/rekha/rekha/ActiveEdges", "root", "I", (.int (0 : Int32)))]) :: F) 9 #[.val (.ref ta), .val (.int nl)] []
  refine s_aloadn H d1_9 rfl rfl (pc' := 10) rfl ?_
  refine s_iloadn H d1_10 rfl (pc' := 11) rfl ?_
  refine s_iconst H d1_11 (z := (1 : Int32)) (by decide) (pc' := 12) rfl ?_
  refine s_iadd H d1_12 (pc' := 13) rfl ?_
  refine s_newarr_int H d1_13 (mem (i := 1) rfl) h0 (cap := 8) hc (by decide) (cn' := 1) (sn' := 8) rfl rfl (by decide) (by decide) (pc' := 15) rfl (fun la => ?_)
  show Go Z k 1 8 ((la, ArI Z .int (List.replicate (nl + (1 : Int32)).toNatClampNeg 0)) :: (ta, Obj Z "com/example/rekha/rekha/ActiveEdges" [("com/example/rekha/rekha/ActiveEdges", "nil", "I", (.int nl)), ("com/example/rekha/rekha/ActiveEdges", "left", "[I", .null), ("com/example/rekha/rekha/ActiveEdges", "right", "[I", .null), ("com/example/rekha/rekha/ActiveEdges", "parent", "[I", .null), ("com/example/rekha/rekha/ActiveEdges", "red", "[Z", .null), ("com/example/rekha/rekha/ActiveEdges", "root", "I", (.int (0 : Int32)))]) :: F) 15 #[.val (.ref ta), .val (.int nl)] [(.ref la), (.ref ta)]
  refine s_putf H d1_15 (mem (i := 13) rfl) (Or.inr ⟨(mem (i := 14) rfl), rfl, rfl⟩) (mem (i := 3) rfl) (ty := (.array .int)) (by decide) rfl rfl (i := 1) (j := 1) rfl rfl (pc' := 18) rfl ?_
  show Go Z k 1 8 ((la, ArI Z .int (List.replicate (nl + (1 : Int32)).toNatClampNeg 0)) :: (ta, Obj Z "com/example/rekha/rekha/ActiveEdges" [("com/example/rekha/rekha/ActiveEdges", "nil", "I", (.int nl)), ("com/example/rekha/rekha/ActiveEdges", "left", "[I", (.ref la)), ("com/example/rekha/rekha/ActiveEdges", "right", "[I", .null), ("com/example/rekha/rekha/ActiveEdges", "parent", "[I", .null), ("com/example/rekha/rekha/ActiveEdges", "red", "[Z", .null), ("com/example/rekha/rekha/ActiveEdges", "root", "I", (.int (0 : Int32)))]) :: F) 18 #[.val (.ref ta), .val (.int nl)] []
  refine s_aloadn H d1_18 rfl rfl (pc' := 19) rfl ?_
  refine s_iloadn H d1_19 rfl (pc' := 20) rfl ?_
  refine s_iconst H d1_20 (z := (1 : Int32)) (by decide) (pc' := 21) rfl ?_
  refine s_iadd H d1_21 (pc' := 22) rfl ?_
  refine s_newarr_int H d1_22 (mem (i := 1) rfl) h0 (cap := 8) hc (by decide) (cn' := 2) (sn' := 16) rfl rfl (by decide) (by decide) (pc' := 24) rfl (fun ra => ?_)
  show Go Z k 2 16 ((ra, ArI Z .int (List.replicate (nl + (1 : Int32)).toNatClampNeg 0)) :: (la, ArI Z .int (List.replicate (nl + (1 : Int32)).toNatClampNeg 0)) :: (ta, Obj Z "com/example/rekha/rekha/ActiveEdges" [("com/example/rekha/rekha/ActiveEdges", "nil", "I", (.int nl)), ("com/example/rekha/rekha/ActiveEdges", "left", "[I", (.ref la)), ("com/example/rekha/rekha/ActiveEdges", "right", "[I", .null), ("com/example/rekha/rekha/ActiveEdges", "parent", "[I", .null), ("com/example/rekha/rekha/ActiveEdges", "red", "[Z", .null), ("com/example/rekha/rekha/ActiveEdges", "root", "I", (.int (0 : Int32)))]) :: F) 24 #[.val (.ref ta), .val (.int nl)] [(.ref ra), (.ref ta)]
  refine s_putf H d1_24 (mem (i := 15) rfl) (Or.inr ⟨(mem (i := 16) rfl), rfl, rfl⟩) (mem (i := 3) rfl) (ty := (.array .int)) (by decide) rfl rfl (i := 2) (j := 2) rfl rfl (pc' := 27) rfl ?_
  show Go Z k 2 16 ((ra, ArI Z .int (List.replicate (nl + (1 : Int32)).toNatClampNeg 0)) :: (la, ArI Z .int (List.replicate (nl + (1 : Int32)).toNatClampNeg 0)) :: (ta, Obj Z "com/example/rekha/rekha/ActiveEdges" [("com/example/rekha/rekha/ActiveEdges", "nil", "I", (.int nl)), ("com/example/rekha/rekha/ActiveEdges", "left", "[I", (.ref la)), ("com/example/rekha/rekha/ActiveEdges", "right", "[I", (.ref ra)), ("com/example/rekha/rekha/ActiveEdges", "parent", "[I", .null), ("com/example/rekha/rekha/ActiveEdges", "red", "[Z", .null), ("com/example/rekha/rekha/ActiveEdges", "root", "I", (.int (0 : Int32)))]) :: F) 27 #[.val (.ref ta), .val (.int nl)] []
  refine s_aloadn H d1_27 rfl rfl (pc' := 28) rfl ?_
  refine s_iloadn H d1_28 rfl (pc' := 29) rfl ?_
  refine s_iconst H d1_29 (z := (1 : Int32)) (by decide) (pc' := 30) rfl ?_
  refine s_iadd H d1_30 (pc' := 31) rfl ?_
  refine s_newarr_int H d1_31 (mem (i := 1) rfl) h0 (cap := 8) hc (by decide) (cn' := 3) (sn' := 24) rfl rfl (by decide) (by decide) (pc' := 33) rfl (fun pa => ?_)
  show Go Z k 3 24 ((pa, ArI Z .int (List.replicate (nl + (1 : Int32)).toNatClampNeg 0)) :: (ra, ArI Z .int (List.replicate (nl + (1 : Int32)).toNatClampNeg 0)) :: (la, ArI Z .int (List.replicate (nl + (1 : Int32)).toNatClampNeg 0)) :: (ta, Obj Z "com/example/rekha/rekha/ActiveEdges" [("com/example/rekha/rekha/ActiveEdges", "nil", "I", (.int nl)), ("com/example/rekha/rekha/ActiveEdges", "left", "[I", (.ref la)), ("com/example/rekha/rekha/ActiveEdges", "right", "[I", (.ref ra)), ("com/example/rekha/rekha/ActiveEdges", "parent", "[I", .null), ("com/example/rekha/rekha/ActiveEdges", "red", "[Z", .null), ("com/example/rekha/rekha/ActiveEdges", "root", "I", (.int (0 : Int32)))]) :: F) 33 #[.val (.ref ta), .val (.int nl)] [(.ref pa), (.ref ta)]
  refine s_putf H d1_33 (mem (i := 17) rfl) (Or.inr ⟨(mem (i := 18) rfl), rfl, rfl⟩) (mem (i := 3) rfl) (ty := (.array .int)) (by decide) rfl rfl (i := 3) (j := 3) rfl rfl (pc' := 36) rfl ?_
  show Go Z k 3 24 ((pa, ArI Z .int (List.replicate (nl + (1 : Int32)).toNatClampNeg 0)) :: (ra, ArI Z .int (List.replicate (nl + (1 : Int32)).toNatClampNeg 0)) :: (la, ArI Z .int (List.replicate (nl + (1 : Int32)).toNatClampNeg 0)) :: (ta, Obj Z "com/example/rekha/rekha/ActiveEdges" [("com/example/rekha/rekha/ActiveEdges", "nil", "I", (.int nl)), ("com/example/rekha/rekha/ActiveEdges", "left", "[I", (.ref la)), ("com/example/rekha/rekha/ActiveEdges", "right", "[I", (.ref ra)), ("com/example/rekha/rekha/ActiveEdges", "parent", "[I", (.ref pa)), ("com/example/rekha/rekha/ActiveEdges", "red", "[Z", .null), ("com/example/rekha/rekha/ActiveEdges", "root", "I", (.int (0 : Int32)))]) :: F) 36 #[.val (.ref ta), .val (.int nl)] []
  refine s_aloadn H d1_36 rfl rfl (pc' := 37) rfl ?_
  refine s_iloadn H d1_37 rfl (pc' := 38) rfl ?_
  refine s_iconst H d1_38 (z := (1 : Int32)) (by decide) (pc' := 39) rfl ?_
  refine s_iadd H d1_39 (pc' := 40) rfl ?_
  refine s_newarr_bool H d1_40 (mem (i := 19) rfl) h0 (cap := 8) hc (by decide) (cn' := 4) (sn' := 32) rfl rfl (by decide) (by decide) (pc' := 42) rfl (fun da => ?_)
  show Go Z k 4 32 ((da, ArI Z .boolean (List.replicate (nl + (1 : Int32)).toNatClampNeg 0)) :: (pa, ArI Z .int (List.replicate (nl + (1 : Int32)).toNatClampNeg 0)) :: (ra, ArI Z .int (List.replicate (nl + (1 : Int32)).toNatClampNeg 0)) :: (la, ArI Z .int (List.replicate (nl + (1 : Int32)).toNatClampNeg 0)) :: (ta, Obj Z "com/example/rekha/rekha/ActiveEdges" [("com/example/rekha/rekha/ActiveEdges", "nil", "I", (.int nl)), ("com/example/rekha/rekha/ActiveEdges", "left", "[I", (.ref la)), ("com/example/rekha/rekha/ActiveEdges", "right", "[I", (.ref ra)), ("com/example/rekha/rekha/ActiveEdges", "parent", "[I", (.ref pa)), ("com/example/rekha/rekha/ActiveEdges", "red", "[Z", .null), ("com/example/rekha/rekha/ActiveEdges", "root", "I", (.int (0 : Int32)))]) :: F) 42 #[.val (.ref ta), .val (.int nl)] [(.ref da), (.ref ta)]
  refine s_putf H d1_42 (mem (i := 20) rfl) (Or.inr ⟨(mem (i := 21) rfl), rfl, rfl⟩) (mem (i := 3) rfl) (ty := (.array .boolean)) (by decide) rfl rfl (i := 4) (j := 4) rfl rfl (pc' := 45) rfl ?_
  show Go Z k 4 32 ((da, ArI Z .boolean (List.replicate (nl + (1 : Int32)).toNatClampNeg 0)) :: (pa, ArI Z .int (List.replicate (nl + (1 : Int32)).toNatClampNeg 0)) :: (ra, ArI Z .int (List.replicate (nl + (1 : Int32)).toNatClampNeg 0)) :: (la, ArI Z .int (List.replicate (nl + (1 : Int32)).toNatClampNeg 0)) :: (ta, Obj Z "com/example/rekha/rekha/ActiveEdges" [("com/example/rekha/rekha/ActiveEdges", "nil", "I", (.int nl)), ("com/example/rekha/rekha/ActiveEdges", "left", "[I", (.ref la)), ("com/example/rekha/rekha/ActiveEdges", "right", "[I", (.ref ra)), ("com/example/rekha/rekha/ActiveEdges", "parent", "[I", (.ref pa)), ("com/example/rekha/rekha/ActiveEdges", "red", "[Z", (.ref da)), ("com/example/rekha/rekha/ActiveEdges", "root", "I", (.int (0 : Int32)))]) :: F) 45 #[.val (.ref ta), .val (.int nl)] []
  refine s_aloadn H d1_45 rfl rfl (pc' := 46) rfl ?_
  refine s_aloadn H d1_46 rfl rfl (pc' := 47) rfl ?_
  refine s_getf H d1_47 (mem (i := 11) rfl) (i := 4) (j := 0) rfl rfl (pc' := 50) rfl ?_
  refine s_putf H d1_50 (mem (i := 22) rfl) (Or.inl (mem (i := 23) rfl)) (mem (i := 3) rfl) (ty := .int) (by decide) rfl rfl (i := 4) (j := 5) rfl rfl (pc' := 53) rfl ?_
  show Go Z k 4 32 ((da, ArI Z .boolean (List.replicate (nl + (1 : Int32)).toNatClampNeg 0)) :: (pa, ArI Z .int (List.replicate (nl + (1 : Int32)).toNatClampNeg 0)) :: (ra, ArI Z .int (List.replicate (nl + (1 : Int32)).toNatClampNeg 0)) :: (la, ArI Z .int (List.replicate (nl + (1 : Int32)).toNatClampNeg 0)) :: (ta, Obj Z "com/example/rekha/rekha/ActiveEdges" [("com/example/rekha/rekha/ActiveEdges", "nil", "I", (.int nl)), ("com/example/rekha/rekha/ActiveEdges", "left", "[I", (.ref la)), ("com/example/rekha/rekha/ActiveEdges", "right", "[I", (.ref ra)), ("com/example/rekha/rekha/ActiveEdges", "parent", "[I", (.ref pa)), ("com/example/rekha/rekha/ActiveEdges", "red", "[Z", (.ref da)), ("com/example/rekha/rekha/ActiveEdges", "root", "I", (.int nl))]) :: F) 53 #[.val (.ref ta), .val (.int nl)] []
  exact s_vret H d1_53 (by decide) (by decide) (⟨la, ra, pa, da, rfl, rfl⟩)
def m_put (nl : Int32) (l r p d : List Int32) (root : Int32) (q : List Int32) (sz ps vl : Int32) : Option Tq := (if (3 : Int32) ≤ ps then ((if (2 : Int32) ≤ ps then ((if (1 : Int32) ≤ ps then ((pt q ps vl).bind fun l1 => (some (Tq.mk (Tr.mk l r p d root) l1))) else ((if sz < (1 : Int32) then ((pt q ps vl).bind fun l2 => (some (Tq.mk (Tr.mk l r p d root) l2))) else ((gt q (0 : Int32)).bind fun a3 => (pt q (1 : Int32) a3).bind fun l4 => (pt l4 ps vl).bind fun l5 => (some (Tq.mk (Tr.mk l r p d root) l5))))))) else ((if sz < (2 : Int32) then ((if (1 : Int32) ≤ ps then ((pt q ps vl).bind fun l6 => (some (Tq.mk (Tr.mk l r p d root) l6))) else ((if sz < (1 : Int32) then ((pt q ps vl).bind fun l7 => (some (Tq.mk (Tr.mk l r p d root) l7))) else ((gt q (0 : Int32)).bind fun a8 => (pt q (1 : Int32) a8).bind fun l9 => (pt l9 ps vl).bind fun l10 => (some (Tq.mk (Tr.mk l r p d root) l10))))))) else ((gt q (1 : Int32)).bind fun a11 => (pt q (2 : Int32) a11).bind fun l12 => (if (1 : Int32) ≤ ps then ((pt l12 ps vl).bind fun l13 => (some (Tq.mk (Tr.mk l r p d root) l13))) else ((if sz < (1 : Int32) then ((pt l12 ps vl).bind fun l14 => (some (Tq.mk (Tr.mk l r p d root) l14))) else ((gt l12 (0 : Int32)).bind fun a15 => (pt l12 (1 : Int32) a15).bind fun l16 => (pt l16 ps vl).bind fun l17 => (some (Tq.mk (Tr.mk l r p d root) l17))))))))))) else ((if sz < (3 : Int32) then ((if (2 : Int32) ≤ ps then ((if (1 : Int32) ≤ ps then ((pt q ps vl).bind fun l18 => (some (Tq.mk (Tr.mk l r p d root) l18))) else ((if sz < (1 : Int32) then ((pt q ps vl).bind fun l19 => (some (Tq.mk (Tr.mk l r p d root) l19))) else ((gt q (0 : Int32)).bind fun a20 => (pt q (1 : Int32) a20).bind fun l21 => (pt l21 ps vl).bind fun l22 => (some (Tq.mk (Tr.mk l r p d root) l22))))))) else ((if sz < (2 : Int32) then ((if (1 : Int32) ≤ ps then ((pt q ps vl).bind fun l23 => (some (Tq.mk (Tr.mk l r p d root) l23))) else ((if sz < (1 : Int32) then ((pt q ps vl).bind fun l24 => (some (Tq.mk (Tr.mk l r p d root) l24))) else ((gt q (0 : Int32)).bind fun a25 => (pt q (1 : Int32) a25).bind fun l26 => (pt l26 ps vl).bind fun l27 => (some (Tq.mk (Tr.mk l r p d root) l27))))))) else ((gt q (1 : Int32)).bind fun a28 => (pt q (2 : Int32) a28).bind fun l29 => (if (1 : Int32) ≤ ps then ((pt l29 ps vl).bind fun l30 => (some (Tq.mk (Tr.mk l r p d root) l30))) else ((if sz < (1 : Int32) then ((pt l29 ps vl).bind fun l31 => (some (Tq.mk (Tr.mk l r p d root) l31))) else ((gt l29 (0 : Int32)).bind fun a32 => (pt l29 (1 : Int32) a32).bind fun l33 => (pt l33 ps vl).bind fun l34 => (some (Tq.mk (Tr.mk l r p d root) l34))))))))))) else ((gt q (2 : Int32)).bind fun a35 => (pt q (3 : Int32) a35).bind fun l36 => (if (2 : Int32) ≤ ps then ((if (1 : Int32) ≤ ps then ((pt l36 ps vl).bind fun l37 => (some (Tq.mk (Tr.mk l r p d root) l37))) else ((if sz < (1 : Int32) then ((pt l36 ps vl).bind fun l38 => (some (Tq.mk (Tr.mk l r p d root) l38))) else ((gt l36 (0 : Int32)).bind fun a39 => (pt l36 (1 : Int32) a39).bind fun l40 => (pt l40 ps vl).bind fun l41 => (some (Tq.mk (Tr.mk l r p d root) l41))))))) else ((if sz < (2 : Int32) then ((if (1 : Int32) ≤ ps then ((pt l36 ps vl).bind fun l42 => (some (Tq.mk (Tr.mk l r p d root) l42))) else ((if sz < (1 : Int32) then ((pt l36 ps vl).bind fun l43 => (some (Tq.mk (Tr.mk l r p d root) l43))) else ((gt l36 (0 : Int32)).bind fun a44 => (pt l36 (1 : Int32) a44).bind fun l45 => (pt l45 ps vl).bind fun l46 => (some (Tq.mk (Tr.mk l r p d root) l46))))))) else ((gt l36 (1 : Int32)).bind fun a47 => (pt l36 (2 : Int32) a47).bind fun l48 => (if (1 : Int32) ≤ ps then ((pt l48 ps vl).bind fun l49 => (some (Tq.mk (Tr.mk l r p d root) l49))) else ((if sz < (1 : Int32) then ((pt l48 ps vl).bind fun l50 => (some (Tq.mk (Tr.mk l r p d root) l50))) else ((gt l48 (0 : Int32)).bind fun a51 => (pt l48 (1 : Int32) a51).bind fun l52 => (pt l52 ps vl).bind fun l53 => (some (Tq.mk (Tr.mk l r p d root) l53))))))))))))))
set_option maxRecDepth 65536 in
set_option maxHeartbeats 40000000 in
theorem met_put {Z : State} (HT : Tb Z) {F : Hp} {nl root : Int32} {l r p d : List Int32} (ta la ra pa da : Addr) (qa : Addr) {q : List Int32} (sz ps vl : Int32) {o : Tq} (hm : m_put nl l r p d root q sz ps vl = some o) : Met Z y_5 method_3_code 4 none ({ frames := 0, cells := 0, slots := 0, locals := 0 } : Room) [(.ref qa), (.int sz), (.int ps), (.int vl)] ((da, ArI Z .boolean d) :: (pa, ArI Z .int p) :: (ra, ArI Z .int r) :: (la, ArI Z .int l) :: (ta, Obj Z "com/example/rekha/rekha/ActiveEdges" [("com/example/rekha/rekha/ActiveEdges", "nil", "I", (.int nl)), ("com/example/rekha/rekha/ActiveEdges", "left", "[I", (.ref la)), ("com/example/rekha/rekha/ActiveEdges", "right", "[I", (.ref ra)), ("com/example/rekha/rekha/ActiveEdges", "parent", "[I", (.ref pa)), ("com/example/rekha/rekha/ActiveEdges", "red", "[Z", (.ref da)), ("com/example/rekha/rekha/ActiveEdges", "root", "I", (.int root))]) :: (qa, ArI Z .int q) :: F) (fun v M' => v = none ∧ M' = ((da, ArI Z .boolean o.t.d) :: (pa, ArI Z .int o.t.p) :: (ra, ArI Z .int o.t.r) :: (la, ArI Z .int o.t.l) :: (ta, Obj Z "com/example/rekha/rekha/ActiveEdges" [("com/example/rekha/rekha/ActiveEdges", "nil", "I", (.int nl)), ("com/example/rekha/rekha/ActiveEdges", "left", "[I", (.ref la)), ("com/example/rekha/rekha/ActiveEdges", "right", "[I", (.ref ra)), ("com/example/rekha/rekha/ActiveEdges", "parent", "[I", (.ref pa)), ("com/example/rekha/rekha/ActiveEdges", "red", "[Z", (.ref da)), ("com/example/rekha/rekha/ActiveEdges", "root", "I", (.int o.t.root))]) :: (qa, ArI Z .int o.q) :: F)) := by
  refine Met.of HT pl_5 (Ls := #[.val (.ref qa), .val (.int sz), .val (.int ps), .val (.int vl)]) (fun m => by first | (simp [entryFrame, mkF, argsToLocals, Value.category]; done) | rfl) (fun k H => ?_)
  unfold m_put at hm
  refine s_iloadn H d5_0 rfl (pc' := 1) rfl ?_
  refine s_iconst H d5_1 (z := (3 : Int32)) (by decide) (pc' := 2) rfl ?_
  refine s_icmp H d5_2 (py := 16) (pc' := 5) q_ge (by decide) rfl (fun c2 => ?_) (fun c2 => ?_)
  · replace hm := own_ifp c2 hm
    refine s_iloadn H d5_16 rfl (pc' := 17) rfl ?_
    refine s_iconst H d5_17 (z := (2 : Int32)) (by decide) (pc' := 18) rfl ?_
    refine s_icmp H d5_18 (py := 32) (pc' := 21) q_ge (by decide) rfl (fun c18 => ?_) (fun c18 => ?_)
    · replace hm := own_ifp c18 hm
      refine s_iloadn H d5_32 rfl (pc' := 33) rfl ?_
      refine s_iconst H d5_33 (z := (1 : Int32)) (by decide) (pc' := 34) rfl ?_
      refine s_icmp H d5_34 (py := 48) (pc' := 37) q_ge (by decide) rfl (fun c34 => ?_) (fun c34 => ?_)
      · replace hm := own_ifp c34 hm
        refine s_aloadn H d5_48 rfl rfl (pc' := 49) rfl ?_
        refine s_iloadn H d5_49 rfl (pc' := 50) rfl ?_
        refine s_iloadn H d5_50 rfl (pc' := 51) rfl ?_
        obtain ⟨l1, e_l1, hm⟩ := own_bnd hm
        refine s_iastore H d5_51 (i := 5) rfl (pt_ok e_l1).1 (jn := (ps).toNatClampNeg) rfl (pt_ok e_l1).2.1 (pc' := 52) rfl ?_
        rw [(pt_ok e_l1).2.2]
        show Go Z k 0 0 ((da, ArI Z .boolean d) :: (pa, ArI Z .int p) :: (ra, ArI Z .int r) :: (la, ArI Z .int l) :: (ta, Obj Z "com/example/rekha/rekha/ActiveEdges" [("com/example/rekha/rekha/ActiveEdges", "nil", "I", (.int nl)), ("com/example/rekha/rekha/ActiveEdges", "left", "[I", (.ref la)), ("com/example/rekha/rekha/ActiveEdges", "right", "[I", (.ref ra)), ("com/example/rekha/rekha/ActiveEdges", "parent", "[I", (.ref pa)), ("com/example/rekha/rekha/ActiveEdges", "red", "[Z", (.ref da)), ("com/example/rekha/rekha/ActiveEdges", "root", "I", (.int root))]) :: (qa, ArI Z .int l1) :: F) 52 #[.val (.ref qa), .val (.int sz), .val (.int ps), .val (.int vl)] []
        refine s_vret H d5_52 (by decide) (by decide) ?_
        obtain rfl := Option.some.inj hm
        exact ⟨rfl, rfl⟩
      · replace hm := own_ifn c34 hm
        refine s_iloadn H d5_37 rfl (pc' := 38) rfl ?_
        refine s_iconst H d5_38 (z := (1 : Int32)) (by decide) (pc' := 39) rfl ?_
        refine s_icmp H d5_39 (py := 48) (pc' := 42) q_lt (by decide) rfl (fun c39 => ?_) (fun c39 => ?_)
        · replace hm := own_ifp c39 hm
          refine s_aloadn H d5_48 rfl rfl (pc' := 49) rfl ?_
          refine s_iloadn H d5_49 rfl (pc' := 50) rfl ?_
          refine s_iloadn H d5_50 rfl (pc' := 51) rfl ?_
          obtain ⟨l2, e_l2, hm⟩ := own_bnd hm
          refine s_iastore H d5_51 (i := 5) rfl (pt_ok e_l2).1 (jn := (ps).toNatClampNeg) rfl (pt_ok e_l2).2.1 (pc' := 52) rfl ?_
          rw [(pt_ok e_l2).2.2]
          show Go Z k 0 0 ((da, ArI Z .boolean d) :: (pa, ArI Z .int p) :: (ra, ArI Z .int r) :: (la, ArI Z .int l) :: (ta, Obj Z "com/example/rekha/rekha/ActiveEdges" [("com/example/rekha/rekha/ActiveEdges", "nil", "I", (.int nl)), ("com/example/rekha/rekha/ActiveEdges", "left", "[I", (.ref la)), ("com/example/rekha/rekha/ActiveEdges", "right", "[I", (.ref ra)), ("com/example/rekha/rekha/ActiveEdges", "parent", "[I", (.ref pa)), ("com/example/rekha/rekha/ActiveEdges", "red", "[Z", (.ref da)), ("com/example/rekha/rekha/ActiveEdges", "root", "I", (.int root))]) :: (qa, ArI Z .int l2) :: F) 52 #[.val (.ref qa), .val (.int sz), .val (.int ps), .val (.int vl)] []
          refine s_vret H d5_52 (by decide) (by decide) ?_
          obtain rfl := Option.some.inj hm
          exact ⟨rfl, rfl⟩
        · replace hm := own_ifn c39 hm
          refine s_aloadn H d5_42 rfl rfl (pc' := 43) rfl ?_
          refine s_iconst H d5_43 (z := (1 : Int32)) (by decide) (pc' := 44) rfl ?_
          refine s_aloadn H d5_44 rfl rfl (pc' := 45) rfl ?_
          refine s_iconst H d5_45 (z := (0 : Int32)) (by decide) (pc' := 46) rfl ?_
          obtain ⟨a3, e_a3, hm⟩ := own_bnd hm
          refine s_iaload H d5_46 (i := 5) rfl (x := a3) (gt_ok e_a3).1 (jn := ((0 : Int32)).toNatClampNeg) rfl (gt_ok e_a3).2 (pc' := 47) rfl ?_
          obtain ⟨l4, e_l4, hm⟩ := own_bnd hm
          refine s_iastore H d5_47 (i := 5) rfl (pt_ok e_l4).1 (jn := ((1 : Int32)).toNatClampNeg) rfl (pt_ok e_l4).2.1 (pc' := 48) rfl ?_
          rw [(pt_ok e_l4).2.2]
          show Go Z k 0 0 ((da, ArI Z .boolean d) :: (pa, ArI Z .int p) :: (ra, ArI Z .int r) :: (la, ArI Z .int l) :: (ta, Obj Z "com/example/rekha/rekha/ActiveEdges" [("com/example/rekha/rekha/ActiveEdges", "nil", "I", (.int nl)), ("com/example/rekha/rekha/ActiveEdges", "left", "[I", (.ref la)), ("com/example/rekha/rekha/ActiveEdges", "right", "[I", (.ref ra)), ("com/example/rekha/rekha/ActiveEdges", "parent", "[I", (.ref pa)), ("com/example/rekha/rekha/ActiveEdges", "red", "[Z", (.ref da)), ("com/example/rekha/rekha/ActiveEdges", "root", "I", (.int root))]) :: (qa, ArI Z .int l4) :: F) 48 #[.val (.ref qa), .val (.int sz), .val (.int ps), .val (.int vl)] []
          refine s_aloadn H d5_48 rfl rfl (pc' := 49) rfl ?_
          refine s_iloadn H d5_49 rfl (pc' := 50) rfl ?_
          refine s_iloadn H d5_50 rfl (pc' := 51) rfl ?_
          obtain ⟨l5, e_l5, hm⟩ := own_bnd hm
          refine s_iastore H d5_51 (i := 5) rfl (pt_ok e_l5).1 (jn := (ps).toNatClampNeg) rfl (pt_ok e_l5).2.1 (pc' := 52) rfl ?_
          rw [(pt_ok e_l5).2.2]
          show Go Z k 0 0 ((da, ArI Z .boolean d) :: (pa, ArI Z .int p) :: (ra, ArI Z .int r) :: (la, ArI Z .int l) :: (ta, Obj Z "com/example/rekha/rekha/ActiveEdges" [("com/example/rekha/rekha/ActiveEdges", "nil", "I", (.int nl)), ("com/example/rekha/rekha/ActiveEdges", "left", "[I", (.ref la)), ("com/example/rekha/rekha/ActiveEdges", "right", "[I", (.ref ra)), ("com/example/rekha/rekha/ActiveEdges", "parent", "[I", (.ref pa)), ("com/example/rekha/rekha/ActiveEdges", "red", "[Z", (.ref da)), ("com/example/rekha/rekha/ActiveEdges", "root", "I", (.int root))]) :: (qa, ArI Z .int l5) :: F) 52 #[.val (.ref qa), .val (.int sz), .val (.int ps), .val (.int vl)] []
          refine s_vret H d5_52 (by decide) (by decide) ?_
          obtain rfl := Option.some.inj hm
          exact ⟨rfl, rfl⟩
    · replace hm := own_ifn c18 hm
      refine s_iloadn H d5_21 rfl (pc' := 22) rfl ?_
      refine s_iconst H d5_22 (z := (2 : Int32)) (by decide) (pc' := 23) rfl ?_
      refine s_icmp H d5_23 (py := 32) (pc' := 26) q_lt (by decide) rfl (fun c23 => ?_) (fun c23 => ?_)
      · replace hm := own_ifp c23 hm
        refine s_iloadn H d5_32 rfl (pc' := 33) rfl ?_
        refine s_iconst H d5_33 (z := (1 : Int32)) (by decide) (pc' := 34) rfl ?_
        refine s_icmp H d5_34 (py := 48) (pc' := 37) q_ge (by decide) rfl (fun c34 => ?_) (fun c34 => ?_)
        · replace hm := own_ifp c34 hm
          refine s_aloadn H d5_48 rfl rfl (pc' := 49) rfl ?_
          refine s_iloadn H d5_49 rfl (pc' := 50) rfl ?_
          refine s_iloadn H d5_50 rfl (pc' := 51) rfl ?_
          obtain ⟨l6, e_l6, hm⟩ := own_bnd hm
          refine s_iastore H d5_51 (i := 5) rfl (pt_ok e_l6).1 (jn := (ps).toNatClampNeg) rfl (pt_ok e_l6).2.1 (pc' := 52) rfl ?_
          rw [(pt_ok e_l6).2.2]
          show Go Z k 0 0 ((da, ArI Z .boolean d) :: (pa, ArI Z .int p) :: (ra, ArI Z .int r) :: (la, ArI Z .int l) :: (ta, Obj Z "com/example/rekha/rekha/ActiveEdges" [("com/example/rekha/rekha/ActiveEdges", "nil", "I", (.int nl)), ("com/example/rekha/rekha/ActiveEdges", "left", "[I", (.ref la)), ("com/example/rekha/rekha/ActiveEdges", "right", "[I", (.ref ra)), ("com/example/rekha/rekha/ActiveEdges", "parent", "[I", (.ref pa)), ("com/example/rekha/rekha/ActiveEdges", "red", "[Z", (.ref da)), ("com/example/rekha/rekha/ActiveEdges", "root", "I", (.int root))]) :: (qa, ArI Z .int l6) :: F) 52 #[.val (.ref qa), .val (.int sz), .val (.int ps), .val (.int vl)] []
          refine s_vret H d5_52 (by decide) (by decide) ?_
          obtain rfl := Option.some.inj hm
          exact ⟨rfl, rfl⟩
        · replace hm := own_ifn c34 hm
          refine s_iloadn H d5_37 rfl (pc' := 38) rfl ?_
          refine s_iconst H d5_38 (z := (1 : Int32)) (by decide) (pc' := 39) rfl ?_
          refine s_icmp H d5_39 (py := 48) (pc' := 42) q_lt (by decide) rfl (fun c39 => ?_) (fun c39 => ?_)
          · replace hm := own_ifp c39 hm
            refine s_aloadn H d5_48 rfl rfl (pc' := 49) rfl ?_
            refine s_iloadn H d5_49 rfl (pc' := 50) rfl ?_
            refine s_iloadn H d5_50 rfl (pc' := 51) rfl ?_
            obtain ⟨l7, e_l7, hm⟩ := own_bnd hm
            refine s_iastore H d5_51 (i := 5) rfl (pt_ok e_l7).1 (jn := (ps).toNatClampNeg) rfl (pt_ok e_l7).2.1 (pc' := 52) rfl ?_
            rw [(pt_ok e_l7).2.2]
            show Go Z k 0 0 ((da, ArI Z .boolean d) :: (pa, ArI Z .int p) :: (ra, ArI Z .int r) :: (la, ArI Z .int l) :: (ta, Obj Z "com/example/rekha/rekha/ActiveEdges" [("com/example/rekha/rekha/ActiveEdges", "nil", "I", (.int nl)), ("com/example/rekha/rekha/ActiveEdges", "left", "[I", (.ref la)), ("com/example/rekha/rekha/ActiveEdges", "right", "[I", (.ref ra)), ("com/example/rekha/rekha/ActiveEdges", "parent", "[I", (.ref pa)), ("com/example/rekha/rekha/ActiveEdges", "red", "[Z", (.ref da)), ("com/example/rekha/rekha/ActiveEdges", "root", "I", (.int root))]) :: (qa, ArI Z .int l7) :: F) 52 #[.val (.ref qa), .val (.int sz), .val (.int ps), .val (.int vl)] []
            refine s_vret H d5_52 (by decide) (by decide) ?_
            obtain rfl := Option.some.inj hm
            exact ⟨rfl, rfl⟩
          · replace hm := own_ifn c39 hm
            refine s_aloadn H d5_42 rfl rfl (pc' := 43) rfl ?_
            refine s_iconst H d5_43 (z := (1 : Int32)) (by decide) (pc' := 44) rfl ?_
            refine s_aloadn H d5_44 rfl rfl (pc' := 45) rfl ?_
            refine s_iconst H d5_45 (z := (0 : Int32)) (by decide) (pc' := 46) rfl ?_
            obtain ⟨a8, e_a8, hm⟩ := own_bnd hm
            refine s_iaload H d5_46 (i := 5) rfl (x := a8) (gt_ok e_a8).1 (jn := ((0 : Int32)).toNatClampNeg) rfl (gt_ok e_a8).2 (pc' := 47) rfl ?_
            obtain ⟨l9, e_l9, hm⟩ := own_bnd hm
            refine s_iastore H d5_47 (i := 5) rfl (pt_ok e_l9).1 (jn := ((1 : Int32)).toNatClampNeg) rfl (pt_ok e_l9).2.1 (pc' := 48) rfl ?_
            rw [(pt_ok e_l9).2.2]
            show Go Z k 0 0 ((da, ArI Z .boolean d) :: (pa, ArI Z .int p) :: (ra, ArI Z .int r) :: (la, ArI Z .int l) :: (ta, Obj Z "com/example/rekha/rekha/ActiveEdges" [("com/example/rekha/rekha/ActiveEdges", "nil", "I", (.int nl)), ("com/example/rekha/rekha/ActiveEdges", "left", "[I", (.ref la)), ("com/example/rekha/rekha/ActiveEdges", "right", "[I", (.ref ra)), ("com/example/rekha/rekha/ActiveEdges", "parent", "[I", (.ref pa)), ("com/example/rekha/rekha/ActiveEdges", "red", "[Z", (.ref da)), ("com/example/rekha/rekha/ActiveEdges", "root", "I", (.int root))]) :: (qa, ArI Z .int l9) :: F) 48 #[.val (.ref qa), .val (.int sz), .val (.int ps), .val (.int vl)] []
            refine s_aloadn H d5_48 rfl rfl (pc' := 49) rfl ?_
            refine s_iloadn H d5_49 rfl (pc' := 50) rfl ?_
            refine s_iloadn H d5_50 rfl (pc' := 51) rfl ?_
            obtain ⟨l10, e_l10, hm⟩ := own_bnd hm
            refine s_iastore H d5_51 (i := 5) rfl (pt_ok e_l10).1 (jn := (ps).toNatClampNeg) rfl (pt_ok e_l10).2.1 (pc' := 52) rfl ?_
            rw [(pt_ok e_l10).2.2]
            show Go Z k 0 0 ((da, ArI Z .boolean d) :: (pa, ArI Z .int p) :: (ra, ArI Z .int r) :: (la, ArI Z .int l) :: (ta, Obj Z "com/example/rekha/rekha/ActiveEdges" [("com/example/rekha/rekha/ActiveEdges", "nil", "I", (.int nl)), ("com/example/rekha/rekha/ActiveEdges", "left", "[I", (.ref la)), ("com/example/rekha/rekha/ActiveEdges", "right", "[I", (.ref ra)), ("com/example/rekha/rekha/ActiveEdges", "parent", "[I", (.ref pa)), ("com/example/rekha/rekha/ActiveEdges", "red", "[Z", (.ref da)), ("com/example/rekha/rekha/ActiveEdges", "root", "I", (.int root))]) :: (qa, ArI Z .int l10) :: F) 52 #[.val (.ref qa), .val (.int sz), .val (.int ps), .val (.int vl)] []
            refine s_vret H d5_52 (by decide) (by decide) ?_
            obtain rfl := Option.some.inj hm
            exact ⟨rfl, rfl⟩
      · replace hm := own_ifn c23 hm
        refine s_aloadn H d5_26 rfl rfl (pc' := 27) rfl ?_
        refine s_iconst H d5_27 (z := (2 : Int32)) (by decide) (pc' := 28) rfl ?_
        refine s_aloadn H d5_28 rfl rfl (pc' := 29) rfl ?_
        refine s_iconst H d5_29 (z := (1 : Int32)) (by decide) (pc' := 30) rfl ?_
        obtain ⟨a11, e_a11, hm⟩ := own_bnd hm
        refine s_iaload H d5_30 (i := 5) rfl (x := a11) (gt_ok e_a11).1 (jn := ((1 : Int32)).toNatClampNeg) rfl (gt_ok e_a11).2 (pc' := 31) rfl ?_
        obtain ⟨l12, e_l12, hm⟩ := own_bnd hm
        refine s_iastore H d5_31 (i := 5) rfl (pt_ok e_l12).1 (jn := ((2 : Int32)).toNatClampNeg) rfl (pt_ok e_l12).2.1 (pc' := 32) rfl ?_
        rw [(pt_ok e_l12).2.2]
        show Go Z k 0 0 ((da, ArI Z .boolean d) :: (pa, ArI Z .int p) :: (ra, ArI Z .int r) :: (la, ArI Z .int l) :: (ta, Obj Z "com/example/rekha/rekha/ActiveEdges" [("com/example/rekha/rekha/ActiveEdges", "nil", "I", (.int nl)), ("com/example/rekha/rekha/ActiveEdges", "left", "[I", (.ref la)), ("com/example/rekha/rekha/ActiveEdges", "right", "[I", (.ref ra)), ("com/example/rekha/rekha/ActiveEdges", "parent", "[I", (.ref pa)), ("com/example/rekha/rekha/ActiveEdges", "red", "[Z", (.ref da)), ("com/example/rekha/rekha/ActiveEdges", "root", "I", (.int root))]) :: (qa, ArI Z .int l12) :: F) 32 #[.val (.ref qa), .val (.int sz), .val (.int ps), .val (.int vl)] []
        refine s_iloadn H d5_32 rfl (pc' := 33) rfl ?_
        refine s_iconst H d5_33 (z := (1 : Int32)) (by decide) (pc' := 34) rfl ?_
        refine s_icmp H d5_34 (py := 48) (pc' := 37) q_ge (by decide) rfl (fun c34 => ?_) (fun c34 => ?_)
        · replace hm := own_ifp c34 hm
          refine s_aloadn H d5_48 rfl rfl (pc' := 49) rfl ?_
          refine s_iloadn H d5_49 rfl (pc' := 50) rfl ?_
          refine s_iloadn H d5_50 rfl (pc' := 51) rfl ?_
          obtain ⟨l13, e_l13, hm⟩ := own_bnd hm
          refine s_iastore H d5_51 (i := 5) rfl (pt_ok e_l13).1 (jn := (ps).toNatClampNeg) rfl (pt_ok e_l13).2.1 (pc' := 52) rfl ?_
          rw [(pt_ok e_l13).2.2]
          show Go Z k 0 0 ((da, ArI Z .boolean d) :: (pa, ArI Z .int p) :: (ra, ArI Z .int r) :: (la, ArI Z .int l) :: (ta, Obj Z "com/example/rekha/rekha/ActiveEdges" [("com/example/rekha/rekha/ActiveEdges", "nil", "I", (.int nl)), ("com/example/rekha/rekha/ActiveEdges", "left", "[I", (.ref la)), ("com/example/rekha/rekha/ActiveEdges", "right", "[I", (.ref ra)), ("com/example/rekha/rekha/ActiveEdges", "parent", "[I", (.ref pa)), ("com/example/rekha/rekha/ActiveEdges", "red", "[Z", (.ref da)), ("com/example/rekha/rekha/ActiveEdges", "root", "I", (.int root))]) :: (qa, ArI Z .int l13) :: F) 52 #[.val (.ref qa), .val (.int sz), .val (.int ps), .val (.int vl)] []
          refine s_vret H d5_52 (by decide) (by decide) ?_
          obtain rfl := Option.some.inj hm
          exact ⟨rfl, rfl⟩
        · replace hm := own_ifn c34 hm
          refine s_iloadn H d5_37 rfl (pc' := 38) rfl ?_
          refine s_iconst H d5_38 (z := (1 : Int32)) (by decide) (pc' := 39) rfl ?_
          refine s_icmp H d5_39 (py := 48) (pc' := 42) q_lt (by decide) rfl (fun c39 => ?_) (fun c39 => ?_)
          · replace hm := own_ifp c39 hm
            refine s_aloadn H d5_48 rfl rfl (pc' := 49) rfl ?_
            refine s_iloadn H d5_49 rfl (pc' := 50) rfl ?_
            refine s_iloadn H d5_50 rfl (pc' := 51) rfl ?_
            obtain ⟨l14, e_l14, hm⟩ := own_bnd hm
            refine s_iastore H d5_51 (i := 5) rfl (pt_ok e_l14).1 (jn := (ps).toNatClampNeg) rfl (pt_ok e_l14).2.1 (pc' := 52) rfl ?_
            rw [(pt_ok e_l14).2.2]
            show Go Z k 0 0 ((da, ArI Z .boolean d) :: (pa, ArI Z .int p) :: (ra, ArI Z .int r) :: (la, ArI Z .int l) :: (ta, Obj Z "com/example/rekha/rekha/ActiveEdges" [("com/example/rekha/rekha/ActiveEdges", "nil", "I", (.int nl)), ("com/example/rekha/rekha/ActiveEdges", "left", "[I", (.ref la)), ("com/example/rekha/rekha/ActiveEdges", "right", "[I", (.ref ra)), ("com/example/rekha/rekha/ActiveEdges", "parent", "[I", (.ref pa)), ("com/example/rekha/rekha/ActiveEdges", "red", "[Z", (.ref da)), ("com/example/rekha/rekha/ActiveEdges", "root", "I", (.int root))]) :: (qa, ArI Z .int l14) :: F) 52 #[.val (.ref qa), .val (.int sz), .val (.int ps), .val (.int vl)] []
            refine s_vret H d5_52 (by decide) (by decide) ?_
            obtain rfl := Option.some.inj hm
            exact ⟨rfl, rfl⟩
          · replace hm := own_ifn c39 hm
            refine s_aloadn H d5_42 rfl rfl (pc' := 43) rfl ?_
            refine s_iconst H d5_43 (z := (1 : Int32)) (by decide) (pc' := 44) rfl ?_
            refine s_aloadn H d5_44 rfl rfl (pc' := 45) rfl ?_
            refine s_iconst H d5_45 (z := (0 : Int32)) (by decide) (pc' := 46) rfl ?_
            obtain ⟨a15, e_a15, hm⟩ := own_bnd hm
            refine s_iaload H d5_46 (i := 5) rfl (x := a15) (gt_ok e_a15).1 (jn := ((0 : Int32)).toNatClampNeg) rfl (gt_ok e_a15).2 (pc' := 47) rfl ?_
            obtain ⟨l16, e_l16, hm⟩ := own_bnd hm
            refine s_iastore H d5_47 (i := 5) rfl (pt_ok e_l16).1 (jn := ((1 : Int32)).toNatClampNeg) rfl (pt_ok e_l16).2.1 (pc' := 48) rfl ?_
            rw [(pt_ok e_l16).2.2]
            show Go Z k 0 0 ((da, ArI Z .boolean d) :: (pa, ArI Z .int p) :: (ra, ArI Z .int r) :: (la, ArI Z .int l) :: (ta, Obj Z "com/example/rekha/rekha/ActiveEdges" [("com/example/rekha/rekha/ActiveEdges", "nil", "I", (.int nl)), ("com/example/rekha/rekha/ActiveEdges", "left", "[I", (.ref la)), ("com/example/rekha/rekha/ActiveEdges", "right", "[I", (.ref ra)), ("com/example/rekha/rekha/ActiveEdges", "parent", "[I", (.ref pa)), ("com/example/rekha/rekha/ActiveEdges", "red", "[Z", (.ref da)), ("com/example/rekha/rekha/ActiveEdges", "root", "I", (.int root))]) :: (qa, ArI Z .int l16) :: F) 48 #[.val (.ref qa), .val (.int sz), .val (.int ps), .val (.int vl)] []
            refine s_aloadn H d5_48 rfl rfl (pc' := 49) rfl ?_
            refine s_iloadn H d5_49 rfl (pc' := 50) rfl ?_
            refine s_iloadn H d5_50 rfl (pc' := 51) rfl ?_
            obtain ⟨l17, e_l17, hm⟩ := own_bnd hm
            refine s_iastore H d5_51 (i := 5) rfl (pt_ok e_l17).1 (jn := (ps).toNatClampNeg) rfl (pt_ok e_l17).2.1 (pc' := 52) rfl ?_
            rw [(pt_ok e_l17).2.2]
            show Go Z k 0 0 ((da, ArI Z .boolean d) :: (pa, ArI Z .int p) :: (ra, ArI Z .int r) :: (la, ArI Z .int l) :: (ta, Obj Z "com/example/rekha/rekha/ActiveEdges" [("com/example/rekha/rekha/ActiveEdges", "nil", "I", (.int nl)), ("com/example/rekha/rekha/ActiveEdges", "left", "[I", (.ref la)), ("com/example/rekha/rekha/ActiveEdges", "right", "[I", (.ref ra)), ("com/example/rekha/rekha/ActiveEdges", "parent", "[I", (.ref pa)), ("com/example/rekha/rekha/ActiveEdges", "red", "[Z", (.ref da)), ("com/example/rekha/rekha/ActiveEdges", "root", "I", (.int root))]) :: (qa, ArI Z .int l17) :: F) 52 #[.val (.ref qa), .val (.int sz), .val (.int ps), .val (.int vl)] []
            refine s_vret H d5_52 (by decide) (by decide) ?_
            obtain rfl := Option.some.inj hm
            exact ⟨rfl, rfl⟩
  · replace hm := own_ifn c2 hm
    refine s_iloadn H d5_5 rfl (pc' := 6) rfl ?_
    refine s_iconst H d5_6 (z := (3 : Int32)) (by decide) (pc' := 7) rfl ?_
    refine s_icmp H d5_7 (py := 16) (pc' := 10) q_lt (by decide) rfl (fun c7 => ?_) (fun c7 => ?_)
    · replace hm := own_ifp c7 hm
      refine s_iloadn H d5_16 rfl (pc' := 17) rfl ?_
      refine s_iconst H d5_17 (z := (2 : Int32)) (by decide) (pc' := 18) rfl ?_
      refine s_icmp H d5_18 (py := 32) (pc' := 21) q_ge (by decide) rfl (fun c18 => ?_) (fun c18 => ?_)
      · replace hm := own_ifp c18 hm
        refine s_iloadn H d5_32 rfl (pc' := 33) rfl ?_
        refine s_iconst H d5_33 (z := (1 : Int32)) (by decide) (pc' := 34) rfl ?_
        refine s_icmp H d5_34 (py := 48) (pc' := 37) q_ge (by decide) rfl (fun c34 => ?_) (fun c34 => ?_)
        · replace hm := own_ifp c34 hm
          refine s_aloadn H d5_48 rfl rfl (pc' := 49) rfl ?_
          refine s_iloadn H d5_49 rfl (pc' := 50) rfl ?_
          refine s_iloadn H d5_50 rfl (pc' := 51) rfl ?_
          obtain ⟨l18, e_l18, hm⟩ := own_bnd hm
          refine s_iastore H d5_51 (i := 5) rfl (pt_ok e_l18).1 (jn := (ps).toNatClampNeg) rfl (pt_ok e_l18).2.1 (pc' := 52) rfl ?_
          rw [(pt_ok e_l18).2.2]
          show Go Z k 0 0 ((da, ArI Z .boolean d) :: (pa, ArI Z .int p) :: (ra, ArI Z .int r) :: (la, ArI Z .int l) :: (ta, Obj Z "com/example/rekha/rekha/ActiveEdges" [("com/example/rekha/rekha/ActiveEdges", "nil", "I", (.int nl)), ("com/example/rekha/rekha/ActiveEdges", "left", "[I", (.ref la)), ("com/example/rekha/rekha/ActiveEdges", "right", "[I", (.ref ra)), ("com/example/rekha/rekha/ActiveEdges", "parent", "[I", (.ref pa)), ("com/example/rekha/rekha/ActiveEdges", "red", "[Z", (.ref da)), ("com/example/rekha/rekha/ActiveEdges", "root", "I", (.int root))]) :: (qa, ArI Z .int l18) :: F) 52 #[.val (.ref qa), .val (.int sz), .val (.int ps), .val (.int vl)] []
          refine s_vret H d5_52 (by decide) (by decide) ?_
          obtain rfl := Option.some.inj hm
          exact ⟨rfl, rfl⟩
        · replace hm := own_ifn c34 hm
          refine s_iloadn H d5_37 rfl (pc' := 38) rfl ?_
          refine s_iconst H d5_38 (z := (1 : Int32)) (by decide) (pc' := 39) rfl ?_
          refine s_icmp H d5_39 (py := 48) (pc' := 42) q_lt (by decide) rfl (fun c39 => ?_) (fun c39 => ?_)
          · replace hm := own_ifp c39 hm
            refine s_aloadn H d5_48 rfl rfl (pc' := 49) rfl ?_
            refine s_iloadn H d5_49 rfl (pc' := 50) rfl ?_
            refine s_iloadn H d5_50 rfl (pc' := 51) rfl ?_
            obtain ⟨l19, e_l19, hm⟩ := own_bnd hm
            refine s_iastore H d5_51 (i := 5) rfl (pt_ok e_l19).1 (jn := (ps).toNatClampNeg) rfl (pt_ok e_l19).2.1 (pc' := 52) rfl ?_
            rw [(pt_ok e_l19).2.2]
            show Go Z k 0 0 ((da, ArI Z .boolean d) :: (pa, ArI Z .int p) :: (ra, ArI Z .int r) :: (la, ArI Z .int l) :: (ta, Obj Z "com/example/rekha/rekha/ActiveEdges" [("com/example/rekha/rekha/ActiveEdges", "nil", "I", (.int nl)), ("com/example/rekha/rekha/ActiveEdges", "left", "[I", (.ref la)), ("com/example/rekha/rekha/ActiveEdges", "right", "[I", (.ref ra)), ("com/example/rekha/rekha/ActiveEdges", "parent", "[I", (.ref pa)), ("com/example/rekha/rekha/ActiveEdges", "red", "[Z", (.ref da)), ("com/example/rekha/rekha/ActiveEdges", "root", "I", (.int root))]) :: (qa, ArI Z .int l19) :: F) 52 #[.val (.ref qa), .val (.int sz), .val (.int ps), .val (.int vl)] []
            refine s_vret H d5_52 (by decide) (by decide) ?_
            obtain rfl := Option.some.inj hm
            exact ⟨rfl, rfl⟩
          · replace hm := own_ifn c39 hm
            refine s_aloadn H d5_42 rfl rfl (pc' := 43) rfl ?_
            refine s_iconst H d5_43 (z := (1 : Int32)) (by decide) (pc' := 44) rfl ?_
            refine s_aloadn H d5_44 rfl rfl (pc' := 45) rfl ?_
            refine s_iconst H d5_45 (z := (0 : Int32)) (by decide) (pc' := 46) rfl ?_
            obtain ⟨a20, e_a20, hm⟩ := own_bnd hm
            refine s_iaload H d5_46 (i := 5) rfl (x := a20) (gt_ok e_a20).1 (jn := ((0 : Int32)).toNatClampNeg) rfl (gt_ok e_a20).2 (pc' := 47) rfl ?_
            obtain ⟨l21, e_l21, hm⟩ := own_bnd hm
            refine s_iastore H d5_47 (i := 5) rfl (pt_ok e_l21).1 (jn := ((1 : Int32)).toNatClampNeg) rfl (pt_ok e_l21).2.1 (pc' := 48) rfl ?_
            rw [(pt_ok e_l21).2.2]
            show Go Z k 0 0 ((da, ArI Z .boolean d) :: (pa, ArI Z .int p) :: (ra, ArI Z .int r) :: (la, ArI Z .int l) :: (ta, Obj Z "com/example/rekha/rekha/ActiveEdges" [("com/example/rekha/rekha/ActiveEdges", "nil", "I", (.int nl)), ("com/example/rekha/rekha/ActiveEdges", "left", "[I", (.ref la)), ("com/example/rekha/rekha/ActiveEdges", "right", "[I", (.ref ra)), ("com/example/rekha/rekha/ActiveEdges", "parent", "[I", (.ref pa)), ("com/example/rekha/rekha/ActiveEdges", "red", "[Z", (.ref da)), ("com/example/rekha/rekha/ActiveEdges", "root", "I", (.int root))]) :: (qa, ArI Z .int l21) :: F) 48 #[.val (.ref qa), .val (.int sz), .val (.int ps), .val (.int vl)] []
            refine s_aloadn H d5_48 rfl rfl (pc' := 49) rfl ?_
            refine s_iloadn H d5_49 rfl (pc' := 50) rfl ?_
            refine s_iloadn H d5_50 rfl (pc' := 51) rfl ?_
            obtain ⟨l22, e_l22, hm⟩ := own_bnd hm
            refine s_iastore H d5_51 (i := 5) rfl (pt_ok e_l22).1 (jn := (ps).toNatClampNeg) rfl (pt_ok e_l22).2.1 (pc' := 52) rfl ?_
            rw [(pt_ok e_l22).2.2]
            show Go Z k 0 0 ((da, ArI Z .boolean d) :: (pa, ArI Z .int p) :: (ra, ArI Z .int r) :: (la, ArI Z .int l) :: (ta, Obj Z "com/example/rekha/rekha/ActiveEdges" [("com/example/rekha/rekha/ActiveEdges", "nil", "I", (.int nl)), ("com/example/rekha/rekha/ActiveEdges", "left", "[I", (.ref la)), ("com/example/rekha/rekha/ActiveEdges", "right", "[I", (.ref ra)), ("com/example/rekha/rekha/ActiveEdges", "parent", "[I", (.ref pa)), ("com/example/rekha/rekha/ActiveEdges", "red", "[Z", (.ref da)), ("com/example/rekha/rekha/ActiveEdges", "root", "I", (.int root))]) :: (qa, ArI Z .int l22) :: F) 52 #[.val (.ref qa), .val (.int sz), .val (.int ps), .val (.int vl)] []
            refine s_vret H d5_52 (by decide) (by decide) ?_
            obtain rfl := Option.some.inj hm
            exact ⟨rfl, rfl⟩
      · replace hm := own_ifn c18 hm
        refine s_iloadn H d5_21 rfl (pc' := 22) rfl ?_
        refine s_iconst H d5_22 (z := (2 : Int32)) (by decide) (pc' := 23) rfl ?_
        refine s_icmp H d5_23 (py := 32) (pc' := 26) q_lt (by decide) rfl (fun c23 => ?_) (fun c23 => ?_)
        · replace hm := own_ifp c23 hm
          refine s_iloadn H d5_32 rfl (pc' := 33) rfl ?_
          refine s_iconst H d5_33 (z := (1 : Int32)) (by decide) (pc' := 34) rfl ?_
          refine s_icmp H d5_34 (py := 48) (pc' := 37) q_ge (by decide) rfl (fun c34 => ?_) (fun c34 => ?_)
          · replace hm := own_ifp c34 hm
            refine s_aloadn H d5_48 rfl rfl (pc' := 49) rfl ?_
            refine s_iloadn H d5_49 rfl (pc' := 50) rfl ?_
            refine s_iloadn H d5_50 rfl (pc' := 51) rfl ?_
            obtain ⟨l23, e_l23, hm⟩ := own_bnd hm
            refine s_iastore H d5_51 (i := 5) rfl (pt_ok e_l23).1 (jn := (ps).toNatClampNeg) rfl (pt_ok e_l23).2.1 (pc' := 52) rfl ?_
            rw [(pt_ok e_l23).2.2]
            show Go Z k 0 0 ((da, ArI Z .boolean d) :: (pa, ArI Z .int p) :: (ra, ArI Z .int r) :: (la, ArI Z .int l) :: (ta, Obj Z "com/example/rekha/rekha/ActiveEdges" [("com/example/rekha/rekha/ActiveEdges", "nil", "I", (.int nl)), ("com/example/rekha/rekha/ActiveEdges", "left", "[I", (.ref la)), ("com/example/rekha/rekha/ActiveEdges", "right", "[I", (.ref ra)), ("com/example/rekha/rekha/ActiveEdges", "parent", "[I", (.ref pa)), ("com/example/rekha/rekha/ActiveEdges", "red", "[Z", (.ref da)), ("com/example/rekha/rekha/ActiveEdges", "root", "I", (.int root))]) :: (qa, ArI Z .int l23) :: F) 52 #[.val (.ref qa), .val (.int sz), .val (.int ps), .val (.int vl)] []
            refine s_vret H d5_52 (by decide) (by decide) ?_
            obtain rfl := Option.some.inj hm
            exact ⟨rfl, rfl⟩
          · replace hm := own_ifn c34 hm
            refine s_iloadn H d5_37 rfl (pc' := 38) rfl ?_
            refine s_iconst H d5_38 (z := (1 : Int32)) (by decide) (pc' := 39) rfl ?_
            refine s_icmp H d5_39 (py := 48) (pc' := 42) q_lt (by decide) rfl (fun c39 => ?_) (fun c39 => ?_)
            · replace hm := own_ifp c39 hm
              refine s_aloadn H d5_48 rfl rfl (pc' := 49) rfl ?_
              refine s_iloadn H d5_49 rfl (pc' := 50) rfl ?_
              refine s_iloadn H d5_50 rfl (pc' := 51) rfl ?_
              obtain ⟨l24, e_l24, hm⟩ := own_bnd hm
              refine s_iastore H d5_51 (i := 5) rfl (pt_ok e_l24).1 (jn := (ps).toNatClampNeg) rfl (pt_ok e_l24).2.1 (pc' := 52) rfl ?_
              rw [(pt_ok e_l24).2.2]
              show Go Z k 0 0 ((da, ArI Z .boolean d) :: (pa, ArI Z .int p) :: (ra, ArI Z .int r) :: (la, ArI Z .int l) :: (ta, Obj Z "com/example/rekha/rekha/ActiveEdges" [("com/example/rekha/rekha/ActiveEdges", "nil", "I", (.int nl)), ("com/example/rekha/rekha/ActiveEdges", "left", "[I", (.ref la)), ("com/example/rekha/rekha/ActiveEdges", "right", "[I", (.ref ra)), ("com/example/rekha/rekha/ActiveEdges", "parent", "[I", (.ref pa)), ("com/example/rekha/rekha/ActiveEdges", "red", "[Z", (.ref da)), ("com/example/rekha/rekha/ActiveEdges", "root", "I", (.int root))]) :: (qa, ArI Z .int l24) :: F) 52 #[.val (.ref qa), .val (.int sz), .val (.int ps), .val (.int vl)] []
              refine s_vret H d5_52 (by decide) (by decide) ?_
              obtain rfl := Option.some.inj hm
              exact ⟨rfl, rfl⟩
            · replace hm := own_ifn c39 hm
              refine s_aloadn H d5_42 rfl rfl (pc' := 43) rfl ?_
              refine s_iconst H d5_43 (z := (1 : Int32)) (by decide) (pc' := 44) rfl ?_
              refine s_aloadn H d5_44 rfl rfl (pc' := 45) rfl ?_
              refine s_iconst H d5_45 (z := (0 : Int32)) (by decide) (pc' := 46) rfl ?_
              obtain ⟨a25, e_a25, hm⟩ := own_bnd hm
              refine s_iaload H d5_46 (i := 5) rfl (x := a25) (gt_ok e_a25).1 (jn := ((0 : Int32)).toNatClampNeg) rfl (gt_ok e_a25).2 (pc' := 47) rfl ?_
              obtain ⟨l26, e_l26, hm⟩ := own_bnd hm
              refine s_iastore H d5_47 (i := 5) rfl (pt_ok e_l26).1 (jn := ((1 : Int32)).toNatClampNeg) rfl (pt_ok e_l26).2.1 (pc' := 48) rfl ?_
              rw [(pt_ok e_l26).2.2]
              show Go Z k 0 0 ((da, ArI Z .boolean d) :: (pa, ArI Z .int p) :: (ra, ArI Z .int r) :: (la, ArI Z .int l) :: (ta, Obj Z "com/example/rekha/rekha/ActiveEdges" [("com/example/rekha/rekha/ActiveEdges", "nil", "I", (.int nl)), ("com/example/rekha/rekha/ActiveEdges", "left", "[I", (.ref la)), ("com/example/rekha/rekha/ActiveEdges", "right", "[I", (.ref ra)), ("com/example/rekha/rekha/ActiveEdges", "parent", "[I", (.ref pa)), ("com/example/rekha/rekha/ActiveEdges", "red", "[Z", (.ref da)), ("com/example/rekha/rekha/ActiveEdges", "root", "I", (.int root))]) :: (qa, ArI Z .int l26) :: F) 48 #[.val (.ref qa), .val (.int sz), .val (.int ps), .val (.int vl)] []
              refine s_aloadn H d5_48 rfl rfl (pc' := 49) rfl ?_
              refine s_iloadn H d5_49 rfl (pc' := 50) rfl ?_
              refine s_iloadn H d5_50 rfl (pc' := 51) rfl ?_
              obtain ⟨l27, e_l27, hm⟩ := own_bnd hm
              refine s_iastore H d5_51 (i := 5) rfl (pt_ok e_l27).1 (jn := (ps).toNatClampNeg) rfl (pt_ok e_l27).2.1 (pc' := 52) rfl ?_
              rw [(pt_ok e_l27).2.2]
              show Go Z k 0 0 ((da, ArI Z .boolean d) :: (pa, ArI Z .int p) :: (ra, ArI Z .int r) :: (la, ArI Z .int l) :: (ta, Obj Z "com/example/rekha/rekha/ActiveEdges" [("com/example/rekha/rekha/ActiveEdges", "nil", "I", (.int nl)), ("com/example/rekha/rekha/ActiveEdges", "left", "[I", (.ref la)), ("com/example/rekha/rekha/ActiveEdges", "right", "[I", (.ref ra)), ("com/example/rekha/rekha/ActiveEdges", "parent", "[I", (.ref pa)), ("com/example/rekha/rekha/ActiveEdges", "red", "[Z", (.ref da)), ("com/example/rekha/rekha/ActiveEdges", "root", "I", (.int root))]) :: (qa, ArI Z .int l27) :: F) 52 #[.val (.ref qa), .val (.int sz), .val (.int ps), .val (.int vl)] []
              refine s_vret H d5_52 (by decide) (by decide) ?_
              obtain rfl := Option.some.inj hm
              exact ⟨rfl, rfl⟩
        · replace hm := own_ifn c23 hm
          refine s_aloadn H d5_26 rfl rfl (pc' := 27) rfl ?_
          refine s_iconst H d5_27 (z := (2 : Int32)) (by decide) (pc' := 28) rfl ?_
          refine s_aloadn H d5_28 rfl rfl (pc' := 29) rfl ?_
          refine s_iconst H d5_29 (z := (1 : Int32)) (by decide) (pc' := 30) rfl ?_
          obtain ⟨a28, e_a28, hm⟩ := own_bnd hm
          refine s_iaload H d5_30 (i := 5) rfl (x := a28) (gt_ok e_a28).1 (jn := ((1 : Int32)).toNatClampNeg) rfl (gt_ok e_a28).2 (pc' := 31) rfl ?_
          obtain ⟨l29, e_l29, hm⟩ := own_bnd hm
          refine s_iastore H d5_31 (i := 5) rfl (pt_ok e_l29).1 (jn := ((2 : Int32)).toNatClampNeg) rfl (pt_ok e_l29).2.1 (pc' := 32) rfl ?_
          rw [(pt_ok e_l29).2.2]
          show Go Z k 0 0 ((da, ArI Z .boolean d) :: (pa, ArI Z .int p) :: (ra, ArI Z .int r) :: (la, ArI Z .int l) :: (ta, Obj Z "com/example/rekha/rekha/ActiveEdges" [("com/example/rekha/rekha/ActiveEdges", "nil", "I", (.int nl)), ("com/example/rekha/rekha/ActiveEdges", "left", "[I", (.ref la)), ("com/example/rekha/rekha/ActiveEdges", "right", "[I", (.ref ra)), ("com/example/rekha/rekha/ActiveEdges", "parent", "[I", (.ref pa)), ("com/example/rekha/rekha/ActiveEdges", "red", "[Z", (.ref da)), ("com/example/rekha/rekha/ActiveEdges", "root", "I", (.int root))]) :: (qa, ArI Z .int l29) :: F) 32 #[.val (.ref qa), .val (.int sz), .val (.int ps), .val (.int vl)] []
          refine s_iloadn H d5_32 rfl (pc' := 33) rfl ?_
          refine s_iconst H d5_33 (z := (1 : Int32)) (by decide) (pc' := 34) rfl ?_
          refine s_icmp H d5_34 (py := 48) (pc' := 37) q_ge (by decide) rfl (fun c34 => ?_) (fun c34 => ?_)
          · replace hm := own_ifp c34 hm
            refine s_aloadn H d5_48 rfl rfl (pc' := 49) rfl ?_
            refine s_iloadn H d5_49 rfl (pc' := 50) rfl ?_
            refine s_iloadn H d5_50 rfl (pc' := 51) rfl ?_
            obtain ⟨l30, e_l30, hm⟩ := own_bnd hm
            refine s_iastore H d5_51 (i := 5) rfl (pt_ok e_l30).1 (jn := (ps).toNatClampNeg) rfl (pt_ok e_l30).2.1 (pc' := 52) rfl ?_
            rw [(pt_ok e_l30).2.2]
            show Go Z k 0 0 ((da, ArI Z .boolean d) :: (pa, ArI Z .int p) :: (ra, ArI Z .int r) :: (la, ArI Z .int l) :: (ta, Obj Z "com/example/rekha/rekha/ActiveEdges" [("com/example/rekha/rekha/ActiveEdges", "nil", "I", (.int nl)), ("com/example/rekha/rekha/ActiveEdges", "left", "[I", (.ref la)), ("com/example/rekha/rekha/ActiveEdges", "right", "[I", (.ref ra)), ("com/example/rekha/rekha/ActiveEdges", "parent", "[I", (.ref pa)), ("com/example/rekha/rekha/ActiveEdges", "red", "[Z", (.ref da)), ("com/example/rekha/rekha/ActiveEdges", "root", "I", (.int root))]) :: (qa, ArI Z .int l30) :: F) 52 #[.val (.ref qa), .val (.int sz), .val (.int ps), .val (.int vl)] []
            refine s_vret H d5_52 (by decide) (by decide) ?_
            obtain rfl := Option.some.inj hm
            exact ⟨rfl, rfl⟩
          · replace hm := own_ifn c34 hm
            refine s_iloadn H d5_37 rfl (pc' := 38) rfl ?_
            refine s_iconst H d5_38 (z := (1 : Int32)) (by decide) (pc' := 39) rfl ?_
            refine s_icmp H d5_39 (py := 48) (pc' := 42) q_lt (by decide) rfl (fun c39 => ?_) (fun c39 => ?_)
            · replace hm := own_ifp c39 hm
              refine s_aloadn H d5_48 rfl rfl (pc' := 49) rfl ?_
              refine s_iloadn H d5_49 rfl (pc' := 50) rfl ?_
              refine s_iloadn H d5_50 rfl (pc' := 51) rfl ?_
              obtain ⟨l31, e_l31, hm⟩ := own_bnd hm
              refine s_iastore H d5_51 (i := 5) rfl (pt_ok e_l31).1 (jn := (ps).toNatClampNeg) rfl (pt_ok e_l31).2.1 (pc' := 52) rfl ?_
              rw [(pt_ok e_l31).2.2]
              show Go Z k 0 0 ((da, ArI Z .boolean d) :: (pa, ArI Z .int p) :: (ra, ArI Z .int r) :: (la, ArI Z .int l) :: (ta, Obj Z "com/example/rekha/rekha/ActiveEdges" [("com/example/rekha/rekha/ActiveEdges", "nil", "I", (.int nl)), ("com/example/rekha/rekha/ActiveEdges", "left", "[I", (.ref la)), ("com/example/rekha/rekha/ActiveEdges", "right", "[I", (.ref ra)), ("com/example/rekha/rekha/ActiveEdges", "parent", "[I", (.ref pa)), ("com/example/rekha/rekha/ActiveEdges", "red", "[Z", (.ref da)), ("com/example/rekha/rekha/ActiveEdges", "root", "I", (.int root))]) :: (qa, ArI Z .int l31) :: F) 52 #[.val (.ref qa), .val (.int sz), .val (.int ps), .val (.int vl)] []
              refine s_vret H d5_52 (by decide) (by decide) ?_
              obtain rfl := Option.some.inj hm
              exact ⟨rfl, rfl⟩
            · replace hm := own_ifn c39 hm
              refine s_aloadn H d5_42 rfl rfl (pc' := 43) rfl ?_
              refine s_iconst H d5_43 (z := (1 : Int32)) (by decide) (pc' := 44) rfl ?_
              refine s_aloadn H d5_44 rfl rfl (pc' := 45) rfl ?_
              refine s_iconst H d5_45 (z := (0 : Int32)) (by decide) (pc' := 46) rfl ?_
              obtain ⟨a32, e_a32, hm⟩ := own_bnd hm
              refine s_iaload H d5_46 (i := 5) rfl (x := a32) (gt_ok e_a32).1 (jn := ((0 : Int32)).toNatClampNeg) rfl (gt_ok e_a32).2 (pc' := 47) rfl ?_
              obtain ⟨l33, e_l33, hm⟩ := own_bnd hm
              refine s_iastore H d5_47 (i := 5) rfl (pt_ok e_l33).1 (jn := ((1 : Int32)).toNatClampNeg) rfl (pt_ok e_l33).2.1 (pc' := 48) rfl ?_
              rw [(pt_ok e_l33).2.2]
              show Go Z k 0 0 ((da, ArI Z .boolean d) :: (pa, ArI Z .int p) :: (ra, ArI Z .int r) :: (la, ArI Z .int l) :: (ta, Obj Z "com/example/rekha/rekha/ActiveEdges" [("com/example/rekha/rekha/ActiveEdges", "nil", "I", (.int nl)), ("com/example/rekha/rekha/ActiveEdges", "left", "[I", (.ref la)), ("com/example/rekha/rekha/ActiveEdges", "right", "[I", (.ref ra)), ("com/example/rekha/rekha/ActiveEdges", "parent", "[I", (.ref pa)), ("com/example/rekha/rekha/ActiveEdges", "red", "[Z", (.ref da)), ("com/example/rekha/rekha/ActiveEdges", "root", "I", (.int root))]) :: (qa, ArI Z .int l33) :: F) 48 #[.val (.ref qa), .val (.int sz), .val (.int ps), .val (.int vl)] []
              refine s_aloadn H d5_48 rfl rfl (pc' := 49) rfl ?_
              refine s_iloadn H d5_49 rfl (pc' := 50) rfl ?_
              refine s_iloadn H d5_50 rfl (pc' := 51) rfl ?_
              obtain ⟨l34, e_l34, hm⟩ := own_bnd hm
              refine s_iastore H d5_51 (i := 5) rfl (pt_ok e_l34).1 (jn := (ps).toNatClampNeg) rfl (pt_ok e_l34).2.1 (pc' := 52) rfl ?_
              rw [(pt_ok e_l34).2.2]
              show Go Z k 0 0 ((da, ArI Z .boolean d) :: (pa, ArI Z .int p) :: (ra, ArI Z .int r) :: (la, ArI Z .int l) :: (ta, Obj Z "com/example/rekha/rekha/ActiveEdges" [("com/example/rekha/rekha/ActiveEdges", "nil", "I", (.int nl)), ("com/example/rekha/rekha/ActiveEdges", "left", "[I", (.ref la)), ("com/example/rekha/rekha/ActiveEdges", "right", "[I", (.ref ra)), ("com/example/rekha/rekha/ActiveEdges", "parent", "[I", (.ref pa)), ("com/example/rekha/rekha/ActiveEdges", "red", "[Z", (.ref da)), ("com/example/rekha/rekha/ActiveEdges", "root", "I", (.int root))]) :: (qa, ArI Z .int l34) :: F) 52 #[.val (.ref qa), .val (.int sz), .val (.int ps), .val (.int vl)] []
              refine s_vret H d5_52 (by decide) (by decide) ?_
              obtain rfl := Option.some.inj hm
              exact ⟨rfl, rfl⟩
    · replace hm := own_ifn c7 hm
      refine s_aloadn H d5_10 rfl rfl (pc' := 11) rfl ?_
      refine s_iconst H d5_11 (z := (3 : Int32)) (by decide) (pc' := 12) rfl ?_
      refine s_aloadn H d5_12 rfl rfl (pc' := 13) rfl ?_
      refine s_iconst H d5_13 (z := (2 : Int32)) (by decide) (pc' := 14) rfl ?_
      obtain ⟨a35, e_a35, hm⟩ := own_bnd hm
      refine s_iaload H d5_14 (i := 5) rfl (x := a35) (gt_ok e_a35).1 (jn := ((2 : Int32)).toNatClampNeg) rfl (gt_ok e_a35).2 (pc' := 15) rfl ?_
      obtain ⟨l36, e_l36, hm⟩ := own_bnd hm
      refine s_iastore H d5_15 (i := 5) rfl (pt_ok e_l36).1 (jn := ((3 : Int32)).toNatClampNeg) rfl (pt_ok e_l36).2.1 (pc' := 16) rfl ?_
      rw [(pt_ok e_l36).2.2]
      show Go Z k 0 0 ((da, ArI Z .boolean d) :: (pa, ArI Z .int p) :: (ra, ArI Z .int r) :: (la, ArI Z .int l) :: (ta, Obj Z "com/example/rekha/rekha/ActiveEdges" [("com/example/rekha/rekha/ActiveEdges", "nil", "I", (.int nl)), ("com/example/rekha/rekha/ActiveEdges", "left", "[I", (.ref la)), ("com/example/rekha/rekha/ActiveEdges", "right", "[I", (.ref ra)), ("com/example/rekha/rekha/ActiveEdges", "parent", "[I", (.ref pa)), ("com/example/rekha/rekha/ActiveEdges", "red", "[Z", (.ref da)), ("com/example/rekha/rekha/ActiveEdges", "root", "I", (.int root))]) :: (qa, ArI Z .int l36) :: F) 16 #[.val (.ref qa), .val (.int sz), .val (.int ps), .val (.int vl)] []
      refine s_iloadn H d5_16 rfl (pc' := 17) rfl ?_
      refine s_iconst H d5_17 (z := (2 : Int32)) (by decide) (pc' := 18) rfl ?_
      refine s_icmp H d5_18 (py := 32) (pc' := 21) q_ge (by decide) rfl (fun c18 => ?_) (fun c18 => ?_)
      · replace hm := own_ifp c18 hm
        refine s_iloadn H d5_32 rfl (pc' := 33) rfl ?_
        refine s_iconst H d5_33 (z := (1 : Int32)) (by decide) (pc' := 34) rfl ?_
        refine s_icmp H d5_34 (py := 48) (pc' := 37) q_ge (by decide) rfl (fun c34 => ?_) (fun c34 => ?_)
        · replace hm := own_ifp c34 hm
          refine s_aloadn H d5_48 rfl rfl (pc' := 49) rfl ?_
          refine s_iloadn H d5_49 rfl (pc' := 50) rfl ?_
          refine s_iloadn H d5_50 rfl (pc' := 51) rfl ?_
          obtain ⟨l37, e_l37, hm⟩ := own_bnd hm
          refine s_iastore H d5_51 (i := 5) rfl (pt_ok e_l37).1 (jn := (ps).toNatClampNeg) rfl (pt_ok e_l37).2.1 (pc' := 52) rfl ?_
          rw [(pt_ok e_l37).2.2]
          show Go Z k 0 0 ((da, ArI Z .boolean d) :: (pa, ArI Z .int p) :: (ra, ArI Z .int r) :: (la, ArI Z .int l) :: (ta, Obj Z "com/example/rekha/rekha/ActiveEdges" [("com/example/rekha/rekha/ActiveEdges", "nil", "I", (.int nl)), ("com/example/rekha/rekha/ActiveEdges", "left", "[I", (.ref la)), ("com/example/rekha/rekha/ActiveEdges", "right", "[I", (.ref ra)), ("com/example/rekha/rekha/ActiveEdges", "parent", "[I", (.ref pa)), ("com/example/rekha/rekha/ActiveEdges", "red", "[Z", (.ref da)), ("com/example/rekha/rekha/ActiveEdges", "root", "I", (.int root))]) :: (qa, ArI Z .int l37) :: F) 52 #[.val (.ref qa), .val (.int sz), .val (.int ps), .val (.int vl)] []
          refine s_vret H d5_52 (by decide) (by decide) ?_
          obtain rfl := Option.some.inj hm
          exact ⟨rfl, rfl⟩
        · replace hm := own_ifn c34 hm
          refine s_iloadn H d5_37 rfl (pc' := 38) rfl ?_
          refine s_iconst H d5_38 (z := (1 : Int32)) (by decide) (pc' := 39) rfl ?_
          refine s_icmp H d5_39 (py := 48) (pc' := 42) q_lt (by decide) rfl (fun c39 => ?_) (fun c39 => ?_)
          · replace hm := own_ifp c39 hm
            refine s_aloadn H d5_48 rfl rfl (pc' := 49) rfl ?_
            refine s_iloadn H d5_49 rfl (pc' := 50) rfl ?_
            refine s_iloadn H d5_50 rfl (pc' := 51) rfl ?_
            obtain ⟨l38, e_l38, hm⟩ := own_bnd hm
            refine s_iastore H d5_51 (i := 5) rfl (pt_ok e_l38).1 (jn := (ps).toNatClampNeg) rfl (pt_ok e_l38).2.1 (pc' := 52) rfl ?_
            rw [(pt_ok e_l38).2.2]
            show Go Z k 0 0 ((da, ArI Z .boolean d) :: (pa, ArI Z .int p) :: (ra, ArI Z .int r) :: (la, ArI Z .int l) :: (ta, Obj Z "com/example/rekha/rekha/ActiveEdges" [("com/example/rekha/rekha/ActiveEdges", "nil", "I", (.int nl)), ("com/example/rekha/rekha/ActiveEdges", "left", "[I", (.ref la)), ("com/example/rekha/rekha/ActiveEdges", "right", "[I", (.ref ra)), ("com/example/rekha/rekha/ActiveEdges", "parent", "[I", (.ref pa)), ("com/example/rekha/rekha/ActiveEdges", "red", "[Z", (.ref da)), ("com/example/rekha/rekha/ActiveEdges", "root", "I", (.int root))]) :: (qa, ArI Z .int l38) :: F) 52 #[.val (.ref qa), .val (.int sz), .val (.int ps), .val (.int vl)] []
            refine s_vret H d5_52 (by decide) (by decide) ?_
            obtain rfl := Option.some.inj hm
            exact ⟨rfl, rfl⟩
          · replace hm := own_ifn c39 hm
            refine s_aloadn H d5_42 rfl rfl (pc' := 43) rfl ?_
            refine s_iconst H d5_43 (z := (1 : Int32)) (by decide) (pc' := 44) rfl ?_
            refine s_aloadn H d5_44 rfl rfl (pc' := 45) rfl ?_
            refine s_iconst H d5_45 (z := (0 : Int32)) (by decide) (pc' := 46) rfl ?_
            obtain ⟨a39, e_a39, hm⟩ := own_bnd hm
            refine s_iaload H d5_46 (i := 5) rfl (x := a39) (gt_ok e_a39).1 (jn := ((0 : Int32)).toNatClampNeg) rfl (gt_ok e_a39).2 (pc' := 47) rfl ?_
            obtain ⟨l40, e_l40, hm⟩ := own_bnd hm
            refine s_iastore H d5_47 (i := 5) rfl (pt_ok e_l40).1 (jn := ((1 : Int32)).toNatClampNeg) rfl (pt_ok e_l40).2.1 (pc' := 48) rfl ?_
            rw [(pt_ok e_l40).2.2]
            show Go Z k 0 0 ((da, ArI Z .boolean d) :: (pa, ArI Z .int p) :: (ra, ArI Z .int r) :: (la, ArI Z .int l) :: (ta, Obj Z "com/example/rekha/rekha/ActiveEdges" [("com/example/rekha/rekha/ActiveEdges", "nil", "I", (.int nl)), ("com/example/rekha/rekha/ActiveEdges", "left", "[I", (.ref la)), ("com/example/rekha/rekha/ActiveEdges", "right", "[I", (.ref ra)), ("com/example/rekha/rekha/ActiveEdges", "parent", "[I", (.ref pa)), ("com/example/rekha/rekha/ActiveEdges", "red", "[Z", (.ref da)), ("com/example/rekha/rekha/ActiveEdges", "root", "I", (.int root))]) :: (qa, ArI Z .int l40) :: F) 48 #[.val (.ref qa), .val (.int sz), .val (.int ps), .val (.int vl)] []
            refine s_aloadn H d5_48 rfl rfl (pc' := 49) rfl ?_
            refine s_iloadn H d5_49 rfl (pc' := 50) rfl ?_
            refine s_iloadn H d5_50 rfl (pc' := 51) rfl ?_
            obtain ⟨l41, e_l41, hm⟩ := own_bnd hm
            refine s_iastore H d5_51 (i := 5) rfl (pt_ok e_l41).1 (jn := (ps).toNatClampNeg) rfl (pt_ok e_l41).2.1 (pc' := 52) rfl ?_
            rw [(pt_ok e_l41).2.2]
            show Go Z k 0 0 ((da, ArI Z .boolean d) :: (pa, ArI Z .int p) :: (ra, ArI Z .int r) :: (la, ArI Z .int l) :: (ta, Obj Z "com/example/rekha/rekha/ActiveEdges" [("com/example/rekha/rekha/ActiveEdges", "nil", "I", (.int nl)), ("com/example/rekha/rekha/ActiveEdges", "left", "[I", (.ref la)), ("com/example/rekha/rekha/ActiveEdges", "right", "[I", (.ref ra)), ("com/example/rekha/rekha/ActiveEdges", "parent", "[I", (.ref pa)), ("com/example/rekha/rekha/ActiveEdges", "red", "[Z", (.ref da)), ("com/example/rekha/rekha/ActiveEdges", "root", "I", (.int root))]) :: (qa, ArI Z .int l41) :: F) 52 #[.val (.ref qa), .val (.int sz), .val (.int ps), .val (.int vl)] []
            refine s_vret H d5_52 (by decide) (by decide) ?_
            obtain rfl := Option.some.inj hm
            exact ⟨rfl, rfl⟩
      · replace hm := own_ifn c18 hm
        refine s_iloadn H d5_21 rfl (pc' := 22) rfl ?_
        refine s_iconst H d5_22 (z := (2 : Int32)) (by decide) (pc' := 23) rfl ?_
        refine s_icmp H d5_23 (py := 32) (pc' := 26) q_lt (by decide) rfl (fun c23 => ?_) (fun c23 => ?_)
        · replace hm := own_ifp c23 hm
          refine s_iloadn H d5_32 rfl (pc' := 33) rfl ?_
          refine s_iconst H d5_33 (z := (1 : Int32)) (by decide) (pc' := 34) rfl ?_
          refine s_icmp H d5_34 (py := 48) (pc' := 37) q_ge (by decide) rfl (fun c34 => ?_) (fun c34 => ?_)
          · replace hm := own_ifp c34 hm
            refine s_aloadn H d5_48 rfl rfl (pc' := 49) rfl ?_
            refine s_iloadn H d5_49 rfl (pc' := 50) rfl ?_
            refine s_iloadn H d5_50 rfl (pc' := 51) rfl ?_
            obtain ⟨l42, e_l42, hm⟩ := own_bnd hm
            refine s_iastore H d5_51 (i := 5) rfl (pt_ok e_l42).1 (jn := (ps).toNatClampNeg) rfl (pt_ok e_l42).2.1 (pc' := 52) rfl ?_
            rw [(pt_ok e_l42).2.2]
            show Go Z k 0 0 ((da, ArI Z .boolean d) :: (pa, ArI Z .int p) :: (ra, ArI Z .int r) :: (la, ArI Z .int l) :: (ta, Obj Z "com/example/rekha/rekha/ActiveEdges" [("com/example/rekha/rekha/ActiveEdges", "nil", "I", (.int nl)), ("com/example/rekha/rekha/ActiveEdges", "left", "[I", (.ref la)), ("com/example/rekha/rekha/ActiveEdges", "right", "[I", (.ref ra)), ("com/example/rekha/rekha/ActiveEdges", "parent", "[I", (.ref pa)), ("com/example/rekha/rekha/ActiveEdges", "red", "[Z", (.ref da)), ("com/example/rekha/rekha/ActiveEdges", "root", "I", (.int root))]) :: (qa, ArI Z .int l42) :: F) 52 #[.val (.ref qa), .val (.int sz), .val (.int ps), .val (.int vl)] []
            refine s_vret H d5_52 (by decide) (by decide) ?_
            obtain rfl := Option.some.inj hm
            exact ⟨rfl, rfl⟩
          · replace hm := own_ifn c34 hm
            refine s_iloadn H d5_37 rfl (pc' := 38) rfl ?_
            refine s_iconst H d5_38 (z := (1 : Int32)) (by decide) (pc' := 39) rfl ?_
            refine s_icmp H d5_39 (py := 48) (pc' := 42) q_lt (by decide) rfl (fun c39 => ?_) (fun c39 => ?_)
            · replace hm := own_ifp c39 hm
              refine s_aloadn H d5_48 rfl rfl (pc' := 49) rfl ?_
              refine s_iloadn H d5_49 rfl (pc' := 50) rfl ?_
              refine s_iloadn H d5_50 rfl (pc' := 51) rfl ?_
              obtain ⟨l43, e_l43, hm⟩ := own_bnd hm
              refine s_iastore H d5_51 (i := 5) rfl (pt_ok e_l43).1 (jn := (ps).toNatClampNeg) rfl (pt_ok e_l43).2.1 (pc' := 52) rfl ?_
              rw [(pt_ok e_l43).2.2]
              show Go Z k 0 0 ((da, ArI Z .boolean d) :: (pa, ArI Z .int p) :: (ra, ArI Z .int r) :: (la, ArI Z .int l) :: (ta, Obj Z "com/example/rekha/rekha/ActiveEdges" [("com/example/rekha/rekha/ActiveEdges", "nil", "I", (.int nl)), ("com/example/rekha/rekha/ActiveEdges", "left", "[I", (.ref la)), ("com/example/rekha/rekha/ActiveEdges", "right", "[I", (.ref ra)), ("com/example/rekha/rekha/ActiveEdges", "parent", "[I", (.ref pa)), ("com/example/rekha/rekha/ActiveEdges", "red", "[Z", (.ref da)), ("com/example/rekha/rekha/ActiveEdges", "root", "I", (.int root))]) :: (qa, ArI Z .int l43) :: F) 52 #[.val (.ref qa), .val (.int sz), .val (.int ps), .val (.int vl)] []
              refine s_vret H d5_52 (by decide) (by decide) ?_
              obtain rfl := Option.some.inj hm
              exact ⟨rfl, rfl⟩
            · replace hm := own_ifn c39 hm
              refine s_aloadn H d5_42 rfl rfl (pc' := 43) rfl ?_
              refine s_iconst H d5_43 (z := (1 : Int32)) (by decide) (pc' := 44) rfl ?_
              refine s_aloadn H d5_44 rfl rfl (pc' := 45) rfl ?_
              refine s_iconst H d5_45 (z := (0 : Int32)) (by decide) (pc' := 46) rfl ?_
              obtain ⟨a44, e_a44, hm⟩ := own_bnd hm
              refine s_iaload H d5_46 (i := 5) rfl (x := a44) (gt_ok e_a44).1 (jn := ((0 : Int32)).toNatClampNeg) rfl (gt_ok e_a44).2 (pc' := 47) rfl ?_
              obtain ⟨l45, e_l45, hm⟩ := own_bnd hm
              refine s_iastore H d5_47 (i := 5) rfl (pt_ok e_l45).1 (jn := ((1 : Int32)).toNatClampNeg) rfl (pt_ok e_l45).2.1 (pc' := 48) rfl ?_
              rw [(pt_ok e_l45).2.2]
              show Go Z k 0 0 ((da, ArI Z .boolean d) :: (pa, ArI Z .int p) :: (ra, ArI Z .int r) :: (la, ArI Z .int l) :: (ta, Obj Z "com/example/rekha/rekha/ActiveEdges" [("com/example/rekha/rekha/ActiveEdges", "nil", "I", (.int nl)), ("com/example/rekha/rekha/ActiveEdges", "left", "[I", (.ref la)), ("com/example/rekha/rekha/ActiveEdges", "right", "[I", (.ref ra)), ("com/example/rekha/rekha/ActiveEdges", "parent", "[I", (.ref pa)), ("com/example/rekha/rekha/ActiveEdges", "red", "[Z", (.ref da)), ("com/example/rekha/rekha/ActiveEdges", "root", "I", (.int root))]) :: (qa, ArI Z .int l45) :: F) 48 #[.val (.ref qa), .val (.int sz), .val (.int ps), .val (.int vl)] []
              refine s_aloadn H d5_48 rfl rfl (pc' := 49) rfl ?_
              refine s_iloadn H d5_49 rfl (pc' := 50) rfl ?_
              refine s_iloadn H d5_50 rfl (pc' := 51) rfl ?_
              obtain ⟨l46, e_l46, hm⟩ := own_bnd hm
              refine s_iastore H d5_51 (i := 5) rfl (pt_ok e_l46).1 (jn := (ps).toNatClampNeg) rfl (pt_ok e_l46).2.1 (pc' := 52) rfl ?_
              rw [(pt_ok e_l46).2.2]
              show Go Z k 0 0 ((da, ArI Z .boolean d) :: (pa, ArI Z .int p) :: (ra, ArI Z .int r) :: (la, ArI Z .int l) :: (ta, Obj Z "com/example/rekha/rekha/ActiveEdges" [("com/example/rekha/rekha/ActiveEdges", "nil", "I", (.int nl)), ("com/example/rekha/rekha/ActiveEdges", "left", "[I", (.ref la)), ("com/example/rekha/rekha/ActiveEdges", "right", "[I", (.ref ra)), ("com/example/rekha/rekha/ActiveEdges", "parent", "[I", (.ref pa)), ("com/example/rekha/rekha/ActiveEdges", "red", "[Z", (.ref da)), ("com/example/rekha/rekha/ActiveEdges", "root", "I", (.int root))]) :: (qa, ArI Z .int l46) :: F) 52 #[.val (.ref qa), .val (.int sz), .val (.int ps), .val (.int vl)] []
              refine s_vret H d5_52 (by decide) (by decide) ?_
              obtain rfl := Option.some.inj hm
              exact ⟨rfl, rfl⟩
        · replace hm := own_ifn c23 hm
          refine s_aloadn H d5_26 rfl rfl (pc' := 27) rfl ?_
          refine s_iconst H d5_27 (z := (2 : Int32)) (by decide) (pc' := 28) rfl ?_
          refine s_aloadn H d5_28 rfl rfl (pc' := 29) rfl ?_
          refine s_iconst H d5_29 (z := (1 : Int32)) (by decide) (pc' := 30) rfl ?_
          obtain ⟨a47, e_a47, hm⟩ := own_bnd hm
          refine s_iaload H d5_30 (i := 5) rfl (x := a47) (gt_ok e_a47).1 (jn := ((1 : Int32)).toNatClampNeg) rfl (gt_ok e_a47).2 (pc' := 31) rfl ?_
          obtain ⟨l48, e_l48, hm⟩ := own_bnd hm
          refine s_iastore H d5_31 (i := 5) rfl (pt_ok e_l48).1 (jn := ((2 : Int32)).toNatClampNeg) rfl (pt_ok e_l48).2.1 (pc' := 32) rfl ?_
          rw [(pt_ok e_l48).2.2]
          show Go Z k 0 0 ((da, ArI Z .boolean d) :: (pa, ArI Z .int p) :: (ra, ArI Z .int r) :: (la, ArI Z .int l) :: (ta, Obj Z "com/example/rekha/rekha/ActiveEdges" [("com/example/rekha/rekha/ActiveEdges", "nil", "I", (.int nl)), ("com/example/rekha/rekha/ActiveEdges", "left", "[I", (.ref la)), ("com/example/rekha/rekha/ActiveEdges", "right", "[I", (.ref ra)), ("com/example/rekha/rekha/ActiveEdges", "parent", "[I", (.ref pa)), ("com/example/rekha/rekha/ActiveEdges", "red", "[Z", (.ref da)), ("com/example/rekha/rekha/ActiveEdges", "root", "I", (.int root))]) :: (qa, ArI Z .int l48) :: F) 32 #[.val (.ref qa), .val (.int sz), .val (.int ps), .val (.int vl)] []
          refine s_iloadn H d5_32 rfl (pc' := 33) rfl ?_
          refine s_iconst H d5_33 (z := (1 : Int32)) (by decide) (pc' := 34) rfl ?_
          refine s_icmp H d5_34 (py := 48) (pc' := 37) q_ge (by decide) rfl (fun c34 => ?_) (fun c34 => ?_)
          · replace hm := own_ifp c34 hm
            refine s_aloadn H d5_48 rfl rfl (pc' := 49) rfl ?_
            refine s_iloadn H d5_49 rfl (pc' := 50) rfl ?_
            refine s_iloadn H d5_50 rfl (pc' := 51) rfl ?_
            obtain ⟨l49, e_l49, hm⟩ := own_bnd hm
            refine s_iastore H d5_51 (i := 5) rfl (pt_ok e_l49).1 (jn := (ps).toNatClampNeg) rfl (pt_ok e_l49).2.1 (pc' := 52) rfl ?_
            rw [(pt_ok e_l49).2.2]
            show Go Z k 0 0 ((da, ArI Z .boolean d) :: (pa, ArI Z .int p) :: (ra, ArI Z .int r) :: (la, ArI Z .int l) :: (ta, Obj Z "com/example/rekha/rekha/ActiveEdges" [("com/example/rekha/rekha/ActiveEdges", "nil", "I", (.int nl)), ("com/example/rekha/rekha/ActiveEdges", "left", "[I", (.ref la)), ("com/example/rekha/rekha/ActiveEdges", "right", "[I", (.ref ra)), ("com/example/rekha/rekha/ActiveEdges", "parent", "[I", (.ref pa)), ("com/example/rekha/rekha/ActiveEdges", "red", "[Z", (.ref da)), ("com/example/rekha/rekha/ActiveEdges", "root", "I", (.int root))]) :: (qa, ArI Z .int l49) :: F) 52 #[.val (.ref qa), .val (.int sz), .val (.int ps), .val (.int vl)] []
            refine s_vret H d5_52 (by decide) (by decide) ?_
            obtain rfl := Option.some.inj hm
            exact ⟨rfl, rfl⟩
          · replace hm := own_ifn c34 hm
            refine s_iloadn H d5_37 rfl (pc' := 38) rfl ?_
            refine s_iconst H d5_38 (z := (1 : Int32)) (by decide) (pc' := 39) rfl ?_
            refine s_icmp H d5_39 (py := 48) (pc' := 42) q_lt (by decide) rfl (fun c39 => ?_) (fun c39 => ?_)
            · replace hm := own_ifp c39 hm
              refine s_aloadn H d5_48 rfl rfl (pc' := 49) rfl ?_
              refine s_iloadn H d5_49 rfl (pc' := 50) rfl ?_
              refine s_iloadn H d5_50 rfl (pc' := 51) rfl ?_
              obtain ⟨l50, e_l50, hm⟩ := own_bnd hm
              refine s_iastore H d5_51 (i := 5) rfl (pt_ok e_l50).1 (jn := (ps).toNatClampNeg) rfl (pt_ok e_l50).2.1 (pc' := 52) rfl ?_
              rw [(pt_ok e_l50).2.2]
              show Go Z k 0 0 ((da, ArI Z .boolean d) :: (pa, ArI Z .int p) :: (ra, ArI Z .int r) :: (la, ArI Z .int l) :: (ta, Obj Z "com/example/rekha/rekha/ActiveEdges" [("com/example/rekha/rekha/ActiveEdges", "nil", "I", (.int nl)), ("com/example/rekha/rekha/ActiveEdges", "left", "[I", (.ref la)), ("com/example/rekha/rekha/ActiveEdges", "right", "[I", (.ref ra)), ("com/example/rekha/rekha/ActiveEdges", "parent", "[I", (.ref pa)), ("com/example/rekha/rekha/ActiveEdges", "red", "[Z", (.ref da)), ("com/example/rekha/rekha/ActiveEdges", "root", "I", (.int root))]) :: (qa, ArI Z .int l50) :: F) 52 #[.val (.ref qa), .val (.int sz), .val (.int ps), .val (.int vl)] []
              refine s_vret H d5_52 (by decide) (by decide) ?_
              obtain rfl := Option.some.inj hm
              exact ⟨rfl, rfl⟩
            · replace hm := own_ifn c39 hm
              refine s_aloadn H d5_42 rfl rfl (pc' := 43) rfl ?_
              refine s_iconst H d5_43 (z := (1 : Int32)) (by decide) (pc' := 44) rfl ?_
              refine s_aloadn H d5_44 rfl rfl (pc' := 45) rfl ?_
              refine s_iconst H d5_45 (z := (0 : Int32)) (by decide) (pc' := 46) rfl ?_
              obtain ⟨a51, e_a51, hm⟩ := own_bnd hm
              refine s_iaload H d5_46 (i := 5) rfl (x := a51) (gt_ok e_a51).1 (jn := ((0 : Int32)).toNatClampNeg) rfl (gt_ok e_a51).2 (pc' := 47) rfl ?_
              obtain ⟨l52, e_l52, hm⟩ := own_bnd hm
              refine s_iastore H d5_47 (i := 5) rfl (pt_ok e_l52).1 (jn := ((1 : Int32)).toNatClampNeg) rfl (pt_ok e_l52).2.1 (pc' := 48) rfl ?_
              rw [(pt_ok e_l52).2.2]
              show Go Z k 0 0 ((da, ArI Z .boolean d) :: (pa, ArI Z .int p) :: (ra, ArI Z .int r) :: (la, ArI Z .int l) :: (ta, Obj Z "com/example/rekha/rekha/ActiveEdges" [("com/example/rekha/rekha/ActiveEdges", "nil", "I", (.int nl)), ("com/example/rekha/rekha/ActiveEdges", "left", "[I", (.ref la)), ("com/example/rekha/rekha/ActiveEdges", "right", "[I", (.ref ra)), ("com/example/rekha/rekha/ActiveEdges", "parent", "[I", (.ref pa)), ("com/example/rekha/rekha/ActiveEdges", "red", "[Z", (.ref da)), ("com/example/rekha/rekha/ActiveEdges", "root", "I", (.int root))]) :: (qa, ArI Z .int l52) :: F) 48 #[.val (.ref qa), .val (.int sz), .val (.int ps), .val (.int vl)] []
              refine s_aloadn H d5_48 rfl rfl (pc' := 49) rfl ?_
              refine s_iloadn H d5_49 rfl (pc' := 50) rfl ?_
              refine s_iloadn H d5_50 rfl (pc' := 51) rfl ?_
              obtain ⟨l53, e_l53, hm⟩ := own_bnd hm
              refine s_iastore H d5_51 (i := 5) rfl (pt_ok e_l53).1 (jn := (ps).toNatClampNeg) rfl (pt_ok e_l53).2.1 (pc' := 52) rfl ?_
              rw [(pt_ok e_l53).2.2]
              show Go Z k 0 0 ((da, ArI Z .boolean d) :: (pa, ArI Z .int p) :: (ra, ArI Z .int r) :: (la, ArI Z .int l) :: (ta, Obj Z "com/example/rekha/rekha/ActiveEdges" [("com/example/rekha/rekha/ActiveEdges", "nil", "I", (.int nl)), ("com/example/rekha/rekha/ActiveEdges", "left", "[I", (.ref la)), ("com/example/rekha/rekha/ActiveEdges", "right", "[I", (.ref ra)), ("com/example/rekha/rekha/ActiveEdges", "parent", "[I", (.ref pa)), ("com/example/rekha/rekha/ActiveEdges", "red", "[Z", (.ref da)), ("com/example/rekha/rekha/ActiveEdges", "root", "I", (.int root))]) :: (qa, ArI Z .int l53) :: F) 52 #[.val (.ref qa), .val (.int sz), .val (.int ps), .val (.int vl)] []
              refine s_vret H d5_52 (by decide) (by decide) ?_
              obtain rfl := Option.some.inj hm
              exact ⟨rfl, rfl⟩
def m_s199 (nl : Int32) (l r p d : List Int32) (root : Int32) (q : List Int32) (nn : Int32) : Option Int32 := (gt q (0 : Int32)).bind fun a1 => (m_nx nl l r p d root a1).bind fun t2 => (gt q (1 : Int32)).bind fun a3 => (if ¬ t2 = a3 then ((some (0 : Int32))) else ((gt q (1 : Int32)).bind fun a4 => (m_nx nl l r p d root a4).bind fun t5 => (gt q (2 : Int32)).bind fun a6 => (if ¬ t5 = a6 then ((some (0 : Int32))) else ((gt q (2 : Int32)).bind fun a7 => (m_nx nl l r p d root a7).bind fun t8 => (gt q (3 : Int32)).bind fun a9 => (if ¬ t8 = a9 then ((some (0 : Int32))) else ((gt q (3 : Int32)).bind fun a10 => (m_nx nl l r p d root a10).bind fun t11 => (if ¬ t11 = nn then ((some (0 : Int32))) else ((some (1 : Int32))))))))))
set_option maxRecDepth 65536 in
set_option maxHeartbeats 40000000 in
theorem s199 {Z : State} {k : Cx} {ta la ra pa da qa : Addr} {nl root e0 e1 e2 e3 i0 i1 i2 i3 i4 nn off p1 p2 p3 : Int32} {l r p d q : List Int32} (H : Ok Z k room_1 (LQ) x code maxLocals ret) (hm : m_s199 nl l r p d root q nn = some 1) : Go Z k 6 42 ((da, ArI Z .boolean d) :: (pa, ArI Z .int p) :: (ra, ArI Z .int r) :: (la, ArI Z .int l) :: (ta, Obj Z "com/example/rekha/rekha/ActiveEdges" [("com/example/rekha/rekha/ActiveEdges", "nil", "I", (.int nl)), ("com/example/rekha/rekha/ActiveEdges", "left", "[I", (.ref la)), ("com/example/rekha/rekha/ActiveEdges", "right", "[I", (.ref ra)), ("com/example/rekha/rekha/ActiveEdges", "parent", "[I", (.ref pa)), ("com/example/rekha/rekha/ActiveEdges", "red", "[Z", (.ref da)), ("com/example/rekha/rekha/ActiveEdges", "root", "I", (.int root))]) :: (qa, ArI Z .int q) :: []) 199 #[.val (.int i0), .val (.int i1), .val (.int i2), .val (.int i3), .val (.int i4), .val (.int nn), .val (.int off), .val (.int e0), .val (.int e1), .val (.int e2), .val (.int e3), .val (.int p1), .val (.int p2), .val (.int p3), .val (.ref qa), .val (.ref ta)] [] := by
  unfold m_s199 at hm
  refine s_aload H at_199 rfl rfl (pc' := 201) rfl ?_
  refine s_aload H at_201 rfl rfl (pc' := 203) rfl ?_
  refine s_iconst H at_203 (z := (0 : Int32)) (by decide) (pc' := 204) rfl ?_
  obtain ⟨a1, e_a1, hm⟩ := own_bnd hm
  refine s_iaload H at_204 (i := 5) rfl (x := a1) (gt_ok e_a1).1 (jn := ((0 : Int32)).toNatClampNeg) rfl (gt_ok e_a1).2 (pc' := 205) rfl ?_
  obtain ⟨t2, e_t2, hm⟩ := own_bnd hm
  refine s_virtual H (met_nx H.tb ta la ra pa da a1 e_t2) at_205 (i := 4) rfl (mem (i := 45) rfl) (mem (i := 46) rfl) (mem (i := 48) rfl) (mem (i := 47) rfl) (mem (i := 4) rfl) (mem (i := 49) rfl) (by decide) pd_8 rfl (rest := []) rfl rfl (by decide) (Nat.le_of_ble_eq_true rfl) (cn' := 6) (sn' := 42) rfl rfl (by decide) (by decide) (pc' := 208) rfl (fun v0 M0 hq => ?_)
  obtain ⟨rfl, hm0⟩ := hq
  subst M0
  show Go Z k 6 42 ((da, ArI Z .boolean d) :: (pa, ArI Z .int p) :: (ra, ArI Z .int r) :: (la, ArI Z .int l) :: (ta, Obj Z "com/example/rekha/rekha/ActiveEdges" [("com/example/rekha/rekha/ActiveEdges", "nil", "I", (.int nl)), ("com/example/rekha/rekha/ActiveEdges", "left", "[I", (.ref la)), ("com/example/rekha/rekha/ActiveEdges", "right", "[I", (.ref ra)), ("com/example/rekha/rekha/ActiveEdges", "parent", "[I", (.ref pa)), ("com/example/rekha/rekha/ActiveEdges", "red", "[Z", (.ref da)), ("com/example/rekha/rekha/ActiveEdges", "root", "I", (.int root))]) :: (qa, ArI Z .int q) :: []) 208 #[.val (.int i0), .val (.int i1), .val (.int i2), .val (.int i3), .val (.int i4), .val (.int nn), .val (.int off), .val (.int e0), .val (.int e1), .val (.int e2), .val (.int e3), .val (.int p1), .val (.int p2), .val (.int p3), .val (.ref qa), .val (.ref ta)] [(.int t2)]
  refine s_aload H at_208 rfl rfl (pc' := 210) rfl ?_
  refine s_iconst H at_210 (z := (1 : Int32)) (by decide) (pc' := 211) rfl ?_
  obtain ⟨a3, e_a3, hm⟩ := own_bnd hm
  refine s_iaload H at_211 (i := 5) rfl (x := a3) (gt_ok e_a3).1 (jn := ((1 : Int32)).toNatClampNeg) rfl (gt_ok e_a3).2 (pc' := 212) rfl ?_
  refine s_icmp H at_212 (py := 265) (pc' := 215) q_ne (by decide) rfl (fun c212 => ?_) (fun c212 => ?_)
  · replace hm := own_ifp c212 hm
    refine s_iconst H at_265 (z := (0 : Int32)) (by decide) (pc' := 266) rfl ?_
    exfalso
    exact absurd (Option.some.inj hm) (by decide)
  · replace hm := own_ifn c212 hm
    refine s_aload H at_215 rfl rfl (pc' := 217) rfl ?_
    refine s_aload H at_217 rfl rfl (pc' := 219) rfl ?_
    refine s_iconst H at_219 (z := (1 : Int32)) (by decide) (pc' := 220) rfl ?_
    obtain ⟨a4, e_a4, hm⟩ := own_bnd hm
    refine s_iaload H at_220 (i := 5) rfl (x := a4) (gt_ok e_a4).1 (jn := ((1 : Int32)).toNatClampNeg) rfl (gt_ok e_a4).2 (pc' := 221) rfl ?_
    obtain ⟨t5, e_t5, hm⟩ := own_bnd hm
    refine s_virtual H (met_nx H.tb ta la ra pa da a4 e_t5) at_221 (i := 4) rfl (mem (i := 45) rfl) (mem (i := 46) rfl) (mem (i := 48) rfl) (mem (i := 47) rfl) (mem (i := 4) rfl) (mem (i := 49) rfl) (by decide) pd_8 rfl (rest := []) rfl rfl (by decide) (Nat.le_of_ble_eq_true rfl) (cn' := 6) (sn' := 42) rfl rfl (by decide) (by decide) (pc' := 224) rfl (fun v0 M0 hq => ?_)
    obtain ⟨rfl, hm0⟩ := hq
    subst M0
    show Go Z k 6 42 ((da, ArI Z .boolean d) :: (pa, ArI Z .int p) :: (ra, ArI Z .int r) :: (la, ArI Z .int l) :: (ta, Obj Z "com/example/rekha/rekha/ActiveEdges" [("com/example/rekha/rekha/ActiveEdges", "nil", "I", (.int nl)), ("com/example/rekha/rekha/ActiveEdges", "left", "[I", (.ref la)), ("com/example/rekha/rekha/ActiveEdges", "right", "[I", (.ref ra)), ("com/example/rekha/rekha/ActiveEdges", "parent", "[I", (.ref pa)), ("com/example/rekha/rekha/ActiveEdges", "red", "[Z", (.ref da)), ("com/example/rekha/rekha/ActiveEdges", "root", "I", (.int root))]) :: (qa, ArI Z .int q) :: []) 224 #[.val (.int i0), .val (.int i1), .val (.int i2), .val (.int i3), .val (.int i4), .val (.int nn), .val (.int off), .val (.int e0), .val (.int e1), .val (.int e2), .val (.int e3), .val (.int p1), .val (.int p2), .val (.int p3), .val (.ref qa), .val (.ref ta)] [(.int t5)]
    refine s_aload H at_224 rfl rfl (pc' := 226) rfl ?_
    refine s_iconst H at_226 (z := (2 : Int32)) (by decide) (pc' := 227) rfl ?_
    obtain ⟨a6, e_a6, hm⟩ := own_bnd hm
    refine s_iaload H at_227 (i := 5) rfl (x := a6) (gt_ok e_a6).1 (jn := ((2 : Int32)).toNatClampNeg) rfl (gt_ok e_a6).2 (pc' := 228) rfl ?_
    refine s_icmp H at_228 (py := 265) (pc' := 231) q_ne (by decide) rfl (fun c228 => ?_) (fun c228 => ?_)
    · replace hm := own_ifp c228 hm
      refine s_iconst H at_265 (z := (0 : Int32)) (by decide) (pc' := 266) rfl ?_
      exfalso
      exact absurd (Option.some.inj hm) (by decide)
    · replace hm := own_ifn c228 hm
      refine s_aload H at_231 rfl rfl (pc' := 233) rfl ?_
      refine s_aload H at_233 rfl rfl (pc' := 235) rfl ?_
      refine s_iconst H at_235 (z := (2 : Int32)) (by decide) (pc' := 236) rfl ?_
      obtain ⟨a7, e_a7, hm⟩ := own_bnd hm
      refine s_iaload H at_236 (i := 5) rfl (x := a7) (gt_ok e_a7).1 (jn := ((2 : Int32)).toNatClampNeg) rfl (gt_ok e_a7).2 (pc' := 237) rfl ?_
      obtain ⟨t8, e_t8, hm⟩ := own_bnd hm
      refine s_virtual H (met_nx H.tb ta la ra pa da a7 e_t8) at_237 (i := 4) rfl (mem (i := 45) rfl) (mem (i := 46) rfl) (mem (i := 48) rfl) (mem (i := 47) rfl) (mem (i := 4) rfl) (mem (i := 49) rfl) (by decide) pd_8 rfl (rest := []) rfl rfl (by decide) (Nat.le_of_ble_eq_true rfl) (cn' := 6) (sn' := 42) rfl rfl (by decide) (by decide) (pc' := 240) rfl (fun v0 M0 hq => ?_)
      obtain ⟨rfl, hm0⟩ := hq
      subst M0
      show Go Z k 6 42 ((da, ArI Z .boolean d) :: (pa, ArI Z .int p) :: (ra, ArI Z .int r) :: (la, ArI Z .int l) :: (ta, Obj Z "com/example/rekha/rekha/ActiveEdges" [("com/example/rekha/rekha/ActiveEdges", "nil", "I", (.int nl)), ("com/example/rekha/rekha/ActiveEdges", "left", "[I", (.ref la)), ("com/example/rekha/rekha/ActiveEdges", "right", "[I", (.ref ra)), ("com/example/rekha/rekha/ActiveEdges", "parent", "[I", (.ref pa)), ("com/example/rekha/rekha/ActiveEdges", "red", "[Z", (.ref da)), ("com/example/rekha/rekha/ActiveEdges", "root", "I", (.int root))]) :: (qa, ArI Z .int q) :: []) 240 #[.val (.int i0), .val (.int i1), .val (.int i2), .val (.int i3), .val (.int i4), .val (.int nn), .val (.int off), .val (.int e0), .val (.int e1), .val (.int e2), .val (.int e3), .val (.int p1), .val (.int p2), .val (.int p3), .val (.ref qa), .val (.ref ta)] [(.int t8)]
      refine s_aload H at_240 rfl rfl (pc' := 242) rfl ?_
      refine s_iconst H at_242 (z := (3 : Int32)) (by decide) (pc' := 243) rfl ?_
      obtain ⟨a9, e_a9, hm⟩ := own_bnd hm
      refine s_iaload H at_243 (i := 5) rfl (x := a9) (gt_ok e_a9).1 (jn := ((3 : Int32)).toNatClampNeg) rfl (gt_ok e_a9).2 (pc' := 244) rfl ?_
      refine s_icmp H at_244 (py := 265) (pc' := 247) q_ne (by decide) rfl (fun c244 => ?_) (fun c244 => ?_)
      · replace hm := own_ifp c244 hm
        refine s_iconst H at_265 (z := (0 : Int32)) (by decide) (pc' := 266) rfl ?_
        exfalso
        exact absurd (Option.some.inj hm) (by decide)
      · replace hm := own_ifn c244 hm
        refine s_aload H at_247 rfl rfl (pc' := 249) rfl ?_
        refine s_aload H at_249 rfl rfl (pc' := 251) rfl ?_
        refine s_iconst H at_251 (z := (3 : Int32)) (by decide) (pc' := 252) rfl ?_
        obtain ⟨a10, e_a10, hm⟩ := own_bnd hm
        refine s_iaload H at_252 (i := 5) rfl (x := a10) (gt_ok e_a10).1 (jn := ((3 : Int32)).toNatClampNeg) rfl (gt_ok e_a10).2 (pc' := 253) rfl ?_
        obtain ⟨t11, e_t11, hm⟩ := own_bnd hm
        refine s_virtual H (met_nx H.tb ta la ra pa da a10 e_t11) at_253 (i := 4) rfl (mem (i := 45) rfl) (mem (i := 46) rfl) (mem (i := 48) rfl) (mem (i := 47) rfl) (mem (i := 4) rfl) (mem (i := 49) rfl) (by decide) pd_8 rfl (rest := []) rfl rfl (by decide) (Nat.le_of_ble_eq_true rfl) (cn' := 6) (sn' := 42) rfl rfl (by decide) (by decide) (pc' := 256) rfl (fun v0 M0 hq => ?_)
        obtain ⟨rfl, hm0⟩ := hq
        subst M0
        show Go Z k 6 42 ((da, ArI Z .boolean d) :: (pa, ArI Z .int p) :: (ra, ArI Z .int r) :: (la, ArI Z .int l) :: (ta, Obj Z "com/example/rekha/rekha/ActiveEdges" [("com/example/rekha/rekha/ActiveEdges", "nil", "I", (.int nl)), ("com/example/rekha/rekha/ActiveEdges", "left", "[I", (.ref la)), ("com/example/rekha/rekha/ActiveEdges", "right", "[I", (.ref ra)), ("com/example/rekha/rekha/ActiveEdges", "parent", "[I", (.ref pa)), ("com/example/rekha/rekha/ActiveEdges", "red", "[Z", (.ref da)), ("com/example/rekha/rekha/ActiveEdges", "root", "I", (.int root))]) :: (qa, ArI Z .int q) :: []) 256 #[.val (.int i0), .val (.int i1), .val (.int i2), .val (.int i3), .val (.int i4), .val (.int nn), .val (.int off), .val (.int e0), .val (.int e1), .val (.int e2), .val (.int e3), .val (.int p1), .val (.int p2), .val (.int p3), .val (.ref qa), .val (.ref ta)] [(.int t11)]
        refine s_iload H at_256 rfl (pc' := 258) rfl ?_
        refine s_icmp H at_258 (py := 265) (pc' := 261) q_ne (by decide) rfl (fun c258 => ?_) (fun c258 => ?_)
        · replace hm := own_ifp c258 hm
          refine s_iconst H at_265 (z := (0 : Int32)) (by decide) (pc' := 266) rfl ?_
          exfalso
          exact absurd (Option.some.inj hm) (by decide)
        · replace hm := own_ifn c258 hm
          refine s_iconst H at_261 (z := (1 : Int32)) (by decide) (pc' := 262) rfl ?_
          refine s_goto H at_262 (pc' := 266) (by decide) ?_
          refine s_iret H at_266 rfl (by simp) (by decide) (by decide) ?_
          rfl
def m_s166 (nl : Int32) (l r p d : List Int32) (root : Int32) (q : List Int32) (nn : Int32) (e3 : Int32) (p3 : Int32) : Option Int32 := (if ¬ p3 = (3 : Int32) then ((gt q p3).bind fun a1 => (m_ib nl l r p d root e3 a1).bind fun t2 => (m_put nl t2.l t2.r t2.p t2.d t2.root q (3 : Int32) p3 e3).bind fun t3 => (m_s199 nl t3.t.l t3.t.r t3.t.p t3.t.d t3.t.root t3.q nn)) else ((m_ib nl l r p d root e3 nn).bind fun t4 => (m_put nl t4.l t4.r t4.p t4.d t4.root q (3 : Int32) p3 e3).bind fun t5 => (m_s199 nl t5.t.l t5.t.r t5.t.p t5.t.d t5.t.root t5.q nn)))
set_option maxRecDepth 65536 in
set_option maxHeartbeats 40000000 in
theorem s166 {Z : State} {k : Cx} {ta la ra pa da qa : Addr} {nl root e0 e1 e2 e3 i0 i1 i2 i3 i4 nn off p1 p2 p3 : Int32} {l r p d q : List Int32} (H : Ok Z k room_1 (LQ) x code maxLocals ret) (hm : m_s166 nl l r p d root q nn e3 p3 = some 1) : Go Z k 6 42 ((da, ArI Z .boolean d) :: (pa, ArI Z .int p) :: (ra, ArI Z .int r) :: (la, ArI Z .int l) :: (ta, Obj Z "com/example/rekha/rekha/ActiveEdges" [("com/example/rekha/rekha/ActiveEdges", "nil", "I", (.int nl)), ("com/example/rekha/rekha/ActiveEdges", "left", "[I", (.ref la)), ("com/example/rekha/rekha/ActiveEdges", "right", "[I", (.ref ra)), ("com/example/rekha/rekha/ActiveEdges", "parent", "[I", (.ref pa)), ("com/example/rekha/rekha/ActiveEdges", "red", "[Z", (.ref da)), ("com/example/rekha/rekha/ActiveEdges", "root", "I", (.int root))]) :: (qa, ArI Z .int q) :: []) 166 #[.val (.int i0), .val (.int i1), .val (.int i2), .val (.int i3), .val (.int i4), .val (.int nn), .val (.int off), .val (.int e0), .val (.int e1), .val (.int e2), .val (.int e3), .val (.int p1), .val (.int p2), .val (.int p3), .val (.ref qa), .val (.ref ta)] [] := by
  unfold m_s166 at hm
  refine s_aload H at_166 rfl rfl (pc' := 168) rfl ?_
  refine s_iload H at_168 rfl (pc' := 170) rfl ?_
  refine s_iload H at_170 rfl (pc' := 172) rfl ?_
  refine s_iconst H at_172 (z := (3 : Int32)) (by decide) (pc' := 173) rfl ?_
  refine s_icmp H at_173 (py := 181) (pc' := 176) q_ne (by decide) rfl (fun c173 => ?_) (fun c173 => ?_)
  · replace hm := own_ifp c173 hm
    refine s_aload H at_181 rfl rfl (pc' := 183) rfl ?_
    refine s_iload H at_183 rfl (pc' := 185) rfl ?_
    obtain ⟨a1, e_a1, hm⟩ := own_bnd hm
    refine s_iaload H at_185 (i := 5) rfl (x := a1) (gt_ok e_a1).1 (jn := (p3).toNatClampNeg) rfl (gt_ok e_a1).2 (pc' := 186) rfl ?_
    obtain ⟨t2, e_t2, hm⟩ := own_bnd hm
    refine s_virtual H (met_ib H.tb ta la ra pa da e3 a1 e_t2) at_186 (i := 4) rfl (mem (i := 24) rfl) (mem (i := 25) rfl) (mem (i := 27) rfl) (mem (i := 26) rfl) (mem (i := 4) rfl) (mem (i := 28) rfl) (by decide) pd_3 rfl (rest := []) rfl rfl (by decide) (Nat.le_of_ble_eq_true rfl) (cn' := 6) (sn' := 42) rfl rfl (by decide) (by decide) (pc' := 189) rfl (fun v0 M0 hq => ?_)
    obtain ⟨rfl, hm0⟩ := hq
    subst M0
    show Go Z k 6 42 ((da, ArI Z .boolean t2.d) :: (pa, ArI Z .int t2.p) :: (ra, ArI Z .int t2.r) :: (la, ArI Z .int t2.l) :: (ta, Obj Z "com/example/rekha/rekha/ActiveEdges" [("com/example/rekha/rekha/ActiveEdges", "nil", "I", (.int nl)), ("com/example/rekha/rekha/ActiveEdges", "left", "[I", (.ref la)), ("com/example/rekha/rekha/ActiveEdges", "right", "[I", (.ref ra)), ("com/example/rekha/rekha/ActiveEdges", "parent", "[I", (.ref pa)), ("com/example/rekha/rekha/ActiveEdges", "red", "[Z", (.ref da)), ("com/example/rekha/rekha/ActiveEdges", "root", "I", (.int t2.root))]) :: (qa, ArI Z .int q) :: []) 189 #[.val (.int i0), .val (.int i1), .val (.int i2), .val (.int i3), .val (.int i4), .val (.int nn), .val (.int off), .val (.int e0), .val (.int e1), .val (.int e2), .val (.int e3), .val (.int p1), .val (.int p2), .val (.int p3), .val (.ref qa), .val (.ref ta)] []
    refine s_aload H at_189 rfl rfl (pc' := 191) rfl ?_
    refine s_iconst H at_191 (z := (3 : Int32)) (by decide) (pc' := 192) rfl ?_
    refine s_iload H at_192 rfl (pc' := 194) rfl ?_
    refine s_iload H at_194 rfl (pc' := 196) rfl ?_
    obtain ⟨t3, e_t3, hm⟩ := own_bnd hm
    refine s_static H (met_put H.tb ta la ra pa da qa (3 : Int32) p3 e3 e_t3) at_196 (mem (i := 33) rfl) (mem (i := 34) rfl) (mem (i := 35) rfl) (mem (i := 36) rfl) (by decide) pd_5 rfl (rest := []) rfl rfl (by decide) (Nat.le_of_ble_eq_true rfl) (cn' := 6) (sn' := 42) rfl rfl (by decide) (by decide) (pc' := 199) rfl (fun v0 M0 hq => ?_)
    obtain ⟨rfl, hm0⟩ := hq
    subst M0
    show Go Z k 6 42 ((da, ArI Z .boolean t3.t.d) :: (pa, ArI Z .int t3.t.p) :: (ra, ArI Z .int t3.t.r) :: (la, ArI Z .int t3.t.l) :: (ta, Obj Z "com/example/rekha/rekha/ActiveEdges" [("com/example/rekha/rekha/ActiveEdges", "nil", "I", (.int nl)), ("com/example/rekha/rekha/ActiveEdges", "left", "[I", (.ref la)), ("com/example/rekha/rekha/ActiveEdges", "right", "[I", (.ref ra)), ("com/example/rekha/rekha/ActiveEdges", "parent", "[I", (.ref pa)), ("com/example/rekha/rekha/ActiveEdges", "red", "[Z", (.ref da)), ("com/example/rekha/rekha/ActiveEdges", "root", "I", (.int t3.t.root))]) :: (qa, ArI Z .int t3.q) :: []) 199 #[.val (.int i0), .val (.int i1), .val (.int i2), .val (.int i3), .val (.int i4), .val (.int nn), .val (.int off), .val (.int e0), .val (.int e1), .val (.int e2), .val (.int e3), .val (.int p1), .val (.int p2), .val (.int p3), .val (.ref qa), .val (.ref ta)] []
    exact s199 H hm
  · replace hm := own_ifn c173 hm
    refine s_iload H at_176 rfl (pc' := 178) rfl ?_
    refine s_goto H at_178 (pc' := 186) (by decide) ?_
    obtain ⟨t4, e_t4, hm⟩ := own_bnd hm
    refine s_virtual H (met_ib H.tb ta la ra pa da e3 nn e_t4) at_186 (i := 4) rfl (mem (i := 24) rfl) (mem (i := 25) rfl) (mem (i := 27) rfl) (mem (i := 26) rfl) (mem (i := 4) rfl) (mem (i := 28) rfl) (by decide) pd_3 rfl (rest := []) rfl rfl (by decide) (Nat.le_of_ble_eq_true rfl) (cn' := 6) (sn' := 42) rfl rfl (by decide) (by decide) (pc' := 189) rfl (fun v0 M0 hq => ?_)
    obtain ⟨rfl, hm0⟩ := hq
    subst M0
    show Go Z k 6 42 ((da, ArI Z .boolean t4.d) :: (pa, ArI Z .int t4.p) :: (ra, ArI Z .int t4.r) :: (la, ArI Z .int t4.l) :: (ta, Obj Z "com/example/rekha/rekha/ActiveEdges" [("com/example/rekha/rekha/ActiveEdges", "nil", "I", (.int nl)), ("com/example/rekha/rekha/ActiveEdges", "left", "[I", (.ref la)), ("com/example/rekha/rekha/ActiveEdges", "right", "[I", (.ref ra)), ("com/example/rekha/rekha/ActiveEdges", "parent", "[I", (.ref pa)), ("com/example/rekha/rekha/ActiveEdges", "red", "[Z", (.ref da)), ("com/example/rekha/rekha/ActiveEdges", "root", "I", (.int t4.root))]) :: (qa, ArI Z .int q) :: []) 189 #[.val (.int i0), .val (.int i1), .val (.int i2), .val (.int i3), .val (.int i4), .val (.int nn), .val (.int off), .val (.int e0), .val (.int e1), .val (.int e2), .val (.int e3), .val (.int p1), .val (.int p2), .val (.int p3), .val (.ref qa), .val (.ref ta)] []
    refine s_aload H at_189 rfl rfl (pc' := 191) rfl ?_
    refine s_iconst H at_191 (z := (3 : Int32)) (by decide) (pc' := 192) rfl ?_
    refine s_iload H at_192 rfl (pc' := 194) rfl ?_
    refine s_iload H at_194 rfl (pc' := 196) rfl ?_
    obtain ⟨t5, e_t5, hm⟩ := own_bnd hm
    refine s_static H (met_put H.tb ta la ra pa da qa (3 : Int32) p3 e3 e_t5) at_196 (mem (i := 33) rfl) (mem (i := 34) rfl) (mem (i := 35) rfl) (mem (i := 36) rfl) (by decide) pd_5 rfl (rest := []) rfl rfl (by decide) (Nat.le_of_ble_eq_true rfl) (cn' := 6) (sn' := 42) rfl rfl (by decide) (by decide) (pc' := 199) rfl (fun v0 M0 hq => ?_)
    obtain ⟨rfl, hm0⟩ := hq
    subst M0
    show Go Z k 6 42 ((da, ArI Z .boolean t5.t.d) :: (pa, ArI Z .int t5.t.p) :: (ra, ArI Z .int t5.t.r) :: (la, ArI Z .int t5.t.l) :: (ta, Obj Z "com/example/rekha/rekha/ActiveEdges" [("com/example/rekha/rekha/ActiveEdges", "nil", "I", (.int nl)), ("com/example/rekha/rekha/ActiveEdges", "left", "[I", (.ref la)), ("com/example/rekha/rekha/ActiveEdges", "right", "[I", (.ref ra)), ("com/example/rekha/rekha/ActiveEdges", "parent", "[I", (.ref pa)), ("com/example/rekha/rekha/ActiveEdges", "red", "[Z", (.ref da)), ("com/example/rekha/rekha/ActiveEdges", "root", "I", (.int t5.t.root))]) :: (qa, ArI Z .int t5.q) :: []) 199 #[.val (.int i0), .val (.int i1), .val (.int i2), .val (.int i3), .val (.int i4), .val (.int nn), .val (.int off), .val (.int e0), .val (.int e1), .val (.int e2), .val (.int e3), .val (.int p1), .val (.int p2), .val (.int p3), .val (.ref qa), .val (.ref ta)] []
    exact s199 H hm
def m_s133 (nl : Int32) (l r p d : List Int32) (root : Int32) (q : List Int32) (nn : Int32) (e2 : Int32) (e3 : Int32) (p2 : Int32) (p3 : Int32) : Option Int32 := (if ¬ p2 = (2 : Int32) then ((gt q p2).bind fun a1 => (m_ib nl l r p d root e2 a1).bind fun t2 => (m_put nl t2.l t2.r t2.p t2.d t2.root q (2 : Int32) p2 e2).bind fun t3 => (m_s166 nl t3.t.l t3.t.r t3.t.p t3.t.d t3.t.root t3.q nn e3 p3)) else ((m_ib nl l r p d root e2 nn).bind fun t4 => (m_put nl t4.l t4.r t4.p t4.d t4.root q (2 : Int32) p2 e2).bind fun t5 => (m_s166 nl t5.t.l t5.t.r t5.t.p t5.t.d t5.t.root t5.q nn e3 p3)))
set_option maxRecDepth 65536 in
set_option maxHeartbeats 40000000 in
theorem s133 {Z : State} {k : Cx} {ta la ra pa da qa : Addr} {nl root e0 e1 e2 e3 i0 i1 i2 i3 i4 nn off p1 p2 p3 : Int32} {l r p d q : List Int32} (H : Ok Z k room_1 (LQ) x code maxLocals ret) (hm : m_s133 nl l r p d root q nn e2 e3 p2 p3 = some 1) : Go Z k 6 42 ((da, ArI Z .boolean d) :: (pa, ArI Z .int p) :: (ra, ArI Z .int r) :: (la, ArI Z .int l) :: (ta, Obj Z "com/example/rekha/rekha/ActiveEdges" [("com/example/rekha/rekha/ActiveEdges", "nil", "I", (.int nl)), ("com/example/rekha/rekha/ActiveEdges", "left", "[I", (.ref la)), ("com/example/rekha/rekha/ActiveEdges", "right", "[I", (.ref ra)), ("com/example/rekha/rekha/ActiveEdges", "parent", "[I", (.ref pa)), ("com/example/rekha/rekha/ActiveEdges", "red", "[Z", (.ref da)), ("com/example/rekha/rekha/ActiveEdges", "root", "I", (.int root))]) :: (qa, ArI Z .int q) :: []) 133 #[.val (.int i0), .val (.int i1), .val (.int i2), .val (.int i3), .val (.int i4), .val (.int nn), .val (.int off), .val (.int e0), .val (.int e1), .val (.int e2), .val (.int e3), .val (.int p1), .val (.int p2), .val (.int p3), .val (.ref qa), .val (.ref ta)] [] := by
  unfold m_s133 at hm
  refine s_aload H at_133 rfl rfl (pc' := 135) rfl ?_
  refine s_iload H at_135 rfl (pc' := 137) rfl ?_
  refine s_iload H at_137 rfl (pc' := 139) rfl ?_
  refine s_iconst H at_139 (z := (2 : Int32)) (by decide) (pc' := 140) rfl ?_
  refine s_icmp H at_140 (py := 148) (pc' := 143) q_ne (by decide) rfl (fun c140 => ?_) (fun c140 => ?_)
  · replace hm := own_ifp c140 hm
    refine s_aload H at_148 rfl rfl (pc' := 150) rfl ?_
    refine s_iload H at_150 rfl (pc' := 152) rfl ?_
    obtain ⟨a1, e_a1, hm⟩ := own_bnd hm
    refine s_iaload H at_152 (i := 5) rfl (x := a1) (gt_ok e_a1).1 (jn := (p2).toNatClampNeg) rfl (gt_ok e_a1).2 (pc' := 153) rfl ?_
    obtain ⟨t2, e_t2, hm⟩ := own_bnd hm
    refine s_virtual H (met_ib H.tb ta la ra pa da e2 a1 e_t2) at_153 (i := 4) rfl (mem (i := 24) rfl) (mem (i := 25) rfl) (mem (i := 27) rfl) (mem (i := 26) rfl) (mem (i := 4) rfl) (mem (i := 28) rfl) (by decide) pd_3 rfl (rest := []) rfl rfl (by decide) (Nat.le_of_ble_eq_true rfl) (cn' := 6) (sn' := 42) rfl rfl (by decide) (by decide) (pc' := 156) rfl (fun v0 M0 hq => ?_)
    obtain ⟨rfl, hm0⟩ := hq
    subst M0
    show Go Z k 6 42 ((da, ArI Z .boolean t2.d) :: (pa, ArI Z .int t2.p) :: (ra, ArI Z .int t2.r) :: (la, ArI Z .int t2.l) :: (ta, Obj Z "com/example/rekha/rekha/ActiveEdges" [("com/example/rekha/rekha/ActiveEdges", "nil", "I", (.int nl)), ("com/example/rekha/rekha/ActiveEdges", "left", "[I", (.ref la)), ("com/example/rekha/rekha/ActiveEdges", "right", "[I", (.ref ra)), ("com/example/rekha/rekha/ActiveEdges", "parent", "[I", (.ref pa)), ("com/example/rekha/rekha/ActiveEdges", "red", "[Z", (.ref da)), ("com/example/rekha/rekha/ActiveEdges", "root", "I", (.int t2.root))]) :: (qa, ArI Z .int q) :: []) 156 #[.val (.int i0), .val (.int i1), .val (.int i2), .val (.int i3), .val (.int i4), .val (.int nn), .val (.int off), .val (.int e0), .val (.int e1), .val (.int e2), .val (.int e3), .val (.int p1), .val (.int p2), .val (.int p3), .val (.ref qa), .val (.ref ta)] []
    refine s_aload H at_156 rfl rfl (pc' := 158) rfl ?_
    refine s_iconst H at_158 (z := (2 : Int32)) (by decide) (pc' := 159) rfl ?_
    refine s_iload H at_159 rfl (pc' := 161) rfl ?_
    refine s_iload H at_161 rfl (pc' := 163) rfl ?_
    obtain ⟨t3, e_t3, hm⟩ := own_bnd hm
    refine s_static H (met_put H.tb ta la ra pa da qa (2 : Int32) p2 e2 e_t3) at_163 (mem (i := 33) rfl) (mem (i := 34) rfl) (mem (i := 35) rfl) (mem (i := 36) rfl) (by decide) pd_5 rfl (rest := []) rfl rfl (by decide) (Nat.le_of_ble_eq_true rfl) (cn' := 6) (sn' := 42) rfl rfl (by decide) (by decide) (pc' := 166) rfl (fun v0 M0 hq => ?_)
    obtain ⟨rfl, hm0⟩ := hq
    subst M0
    show Go Z k 6 42 ((da, ArI Z .boolean t3.t.d) :: (pa, ArI Z .int t3.t.p) :: (ra, ArI Z .int t3.t.r) :: (la, ArI Z .int t3.t.l) :: (ta, Obj Z "com/example/rekha/rekha/ActiveEdges" [("com/example/rekha/rekha/ActiveEdges", "nil", "I", (.int nl)), ("com/example/rekha/rekha/ActiveEdges", "left", "[I", (.ref la)), ("com/example/rekha/rekha/ActiveEdges", "right", "[I", (.ref ra)), ("com/example/rekha/rekha/ActiveEdges", "parent", "[I", (.ref pa)), ("com/example/rekha/rekha/ActiveEdges", "red", "[Z", (.ref da)), ("com/example/rekha/rekha/ActiveEdges", "root", "I", (.int t3.t.root))]) :: (qa, ArI Z .int t3.q) :: []) 166 #[.val (.int i0), .val (.int i1), .val (.int i2), .val (.int i3), .val (.int i4), .val (.int nn), .val (.int off), .val (.int e0), .val (.int e1), .val (.int e2), .val (.int e3), .val (.int p1), .val (.int p2), .val (.int p3), .val (.ref qa), .val (.ref ta)] []
    exact s166 H hm
  · replace hm := own_ifn c140 hm
    refine s_iload H at_143 rfl (pc' := 145) rfl ?_
    refine s_goto H at_145 (pc' := 153) (by decide) ?_
    obtain ⟨t4, e_t4, hm⟩ := own_bnd hm
    refine s_virtual H (met_ib H.tb ta la ra pa da e2 nn e_t4) at_153 (i := 4) rfl (mem (i := 24) rfl) (mem (i := 25) rfl) (mem (i := 27) rfl) (mem (i := 26) rfl) (mem (i := 4) rfl) (mem (i := 28) rfl) (by decide) pd_3 rfl (rest := []) rfl rfl (by decide) (Nat.le_of_ble_eq_true rfl) (cn' := 6) (sn' := 42) rfl rfl (by decide) (by decide) (pc' := 156) rfl (fun v0 M0 hq => ?_)
    obtain ⟨rfl, hm0⟩ := hq
    subst M0
    show Go Z k 6 42 ((da, ArI Z .boolean t4.d) :: (pa, ArI Z .int t4.p) :: (ra, ArI Z .int t4.r) :: (la, ArI Z .int t4.l) :: (ta, Obj Z "com/example/rekha/rekha/ActiveEdges" [("com/example/rekha/rekha/ActiveEdges", "nil", "I", (.int nl)), ("com/example/rekha/rekha/ActiveEdges", "left", "[I", (.ref la)), ("com/example/rekha/rekha/ActiveEdges", "right", "[I", (.ref ra)), ("com/example/rekha/rekha/ActiveEdges", "parent", "[I", (.ref pa)), ("com/example/rekha/rekha/ActiveEdges", "red", "[Z", (.ref da)), ("com/example/rekha/rekha/ActiveEdges", "root", "I", (.int t4.root))]) :: (qa, ArI Z .int q) :: []) 156 #[.val (.int i0), .val (.int i1), .val (.int i2), .val (.int i3), .val (.int i4), .val (.int nn), .val (.int off), .val (.int e0), .val (.int e1), .val (.int e2), .val (.int e3), .val (.int p1), .val (.int p2), .val (.int p3), .val (.ref qa), .val (.ref ta)] []
    refine s_aload H at_156 rfl rfl (pc' := 158) rfl ?_
    refine s_iconst H at_158 (z := (2 : Int32)) (by decide) (pc' := 159) rfl ?_
    refine s_iload H at_159 rfl (pc' := 161) rfl ?_
    refine s_iload H at_161 rfl (pc' := 163) rfl ?_
    obtain ⟨t5, e_t5, hm⟩ := own_bnd hm
    refine s_static H (met_put H.tb ta la ra pa da qa (2 : Int32) p2 e2 e_t5) at_163 (mem (i := 33) rfl) (mem (i := 34) rfl) (mem (i := 35) rfl) (mem (i := 36) rfl) (by decide) pd_5 rfl (rest := []) rfl rfl (by decide) (Nat.le_of_ble_eq_true rfl) (cn' := 6) (sn' := 42) rfl rfl (by decide) (by decide) (pc' := 166) rfl (fun v0 M0 hq => ?_)
    obtain ⟨rfl, hm0⟩ := hq
    subst M0
    show Go Z k 6 42 ((da, ArI Z .boolean t5.t.d) :: (pa, ArI Z .int t5.t.p) :: (ra, ArI Z .int t5.t.r) :: (la, ArI Z .int t5.t.l) :: (ta, Obj Z "com/example/rekha/rekha/ActiveEdges" [("com/example/rekha/rekha/ActiveEdges", "nil", "I", (.int nl)), ("com/example/rekha/rekha/ActiveEdges", "left", "[I", (.ref la)), ("com/example/rekha/rekha/ActiveEdges", "right", "[I", (.ref ra)), ("com/example/rekha/rekha/ActiveEdges", "parent", "[I", (.ref pa)), ("com/example/rekha/rekha/ActiveEdges", "red", "[Z", (.ref da)), ("com/example/rekha/rekha/ActiveEdges", "root", "I", (.int t5.t.root))]) :: (qa, ArI Z .int t5.q) :: []) 166 #[.val (.int i0), .val (.int i1), .val (.int i2), .val (.int i3), .val (.int i4), .val (.int nn), .val (.int off), .val (.int e0), .val (.int e1), .val (.int e2), .val (.int e3), .val (.int p1), .val (.int p2), .val (.int p3), .val (.ref qa), .val (.ref ta)] []
    exact s166 H hm
def m_s85 (nl : Int32) (l r p d : List Int32) (root : Int32) (q : List Int32) (nn : Int32) (e0 : Int32) (e1 : Int32) (e2 : Int32) (e3 : Int32) (p1 : Int32) (p2 : Int32) (p3 : Int32) : Option Int32 := (m_ib nl l r p d root e0 nn).bind fun t1 => (pt q (0 : Int32) e0).bind fun l2 => (if ¬ p1 = (1 : Int32) then ((gt l2 p1).bind fun a3 => (m_ib nl t1.l t1.r t1.p t1.d t1.root e1 a3).bind fun t4 => (m_put nl t4.l t4.r t4.p t4.d t4.root l2 (1 : Int32) p1 e1).bind fun t5 => (m_s133 nl t5.t.l t5.t.r t5.t.p t5.t.d t5.t.root t5.q nn e2 e3 p2 p3)) else ((m_ib nl t1.l t1.r t1.p t1.d t1.root e1 nn).bind fun t6 => (m_put nl t6.l t6.r t6.p t6.d t6.root l2 (1 : Int32) p1 e1).bind fun t7 => (m_s133 nl t7.t.l t7.t.r t7.t.p t7.t.d t7.t.root t7.q nn e2 e3 p2 p3)))
set_option maxRecDepth 65536 in
set_option maxHeartbeats 40000000 in
theorem s85 {Z : State} {k : Cx} {ta la ra pa da qa : Addr} {nl root e0 e1 e2 e3 i0 i1 i2 i3 i4 nn off p1 p2 p3 : Int32} {l r p d q : List Int32} (H : Ok Z k room_1 (LQ) x code maxLocals ret) (hm : m_s85 nl l r p d root q nn e0 e1 e2 e3 p1 p2 p3 = some 1) : Go Z k 6 42 ((da, ArI Z .boolean d) :: (pa, ArI Z .int p) :: (ra, ArI Z .int r) :: (la, ArI Z .int l) :: (ta, Obj Z "com/example/rekha/rekha/ActiveEdges" [("com/example/rekha/rekha/ActiveEdges", "nil", "I", (.int nl)), ("com/example/rekha/rekha/ActiveEdges", "left", "[I", (.ref la)), ("com/example/rekha/rekha/ActiveEdges", "right", "[I", (.ref ra)), ("com/example/rekha/rekha/ActiveEdges", "parent", "[I", (.ref pa)), ("com/example/rekha/rekha/ActiveEdges", "red", "[Z", (.ref da)), ("com/example/rekha/rekha/ActiveEdges", "root", "I", (.int root))]) :: (qa, ArI Z .int q) :: []) 85 #[.val (.int i0), .val (.int i1), .val (.int i2), .val (.int i3), .val (.int i4), .val (.int nn), .val (.int off), .val (.int e0), .val (.int e1), .val (.int e2), .val (.int e3), .val (.int p1), .val (.int p2), .val (.int p3), .val (.ref qa), .val (.ref ta)] [] := by
  unfold m_s85 at hm
  refine s_aload H at_85 rfl rfl (pc' := 87) rfl ?_
  refine s_iload H at_87 rfl (pc' := 89) rfl ?_
  refine s_iload H at_89 rfl (pc' := 91) rfl ?_
  obtain ⟨t1, e_t1, hm⟩ := own_bnd hm
  refine s_virtual H (met_ib H.tb ta la ra pa da e0 nn e_t1) at_91 (i := 4) rfl (mem (i := 24) rfl) (mem (i := 25) rfl) (mem (i := 27) rfl) (mem (i := 26) rfl) (mem (i := 4) rfl) (mem (i := 28) rfl) (by decide) pd_3 rfl (rest := []) rfl rfl (by decide) (Nat.le_of_ble_eq_true rfl) (cn' := 6) (sn' := 42) rfl rfl (by decide) (by decide) (pc' := 94) rfl (fun v0 M0 hq => ?_)
  obtain ⟨rfl, hm0⟩ := hq
  subst M0
  show Go Z k 6 42 ((da, ArI Z .boolean t1.d) :: (pa, ArI Z .int t1.p) :: (ra, ArI Z .int t1.r) :: (la, ArI Z .int t1.l) :: (ta, Obj Z "com/example/rekha/rekha/ActiveEdges" [("com/example/rekha/rekha/ActiveEdges", "nil", "I", (.int nl)), ("com/example/rekha/rekha/ActiveEdges", "left", "[I", (.ref la)), ("com/example/rekha/rekha/ActiveEdges", "right", "[I", (.ref ra)), ("com/example/rekha/rekha/ActiveEdges", "parent", "[I", (.ref pa)), ("com/example/rekha/rekha/ActiveEdges", "red", "[Z", (.ref da)), ("com/example/rekha/rekha/ActiveEdges", "root", "I", (.int t1.root))]) :: (qa, ArI Z .int q) :: []) 94 #[.val (.int i0), .val (.int i1), .val (.int i2), .val (.int i3), .val (.int i4), .val (.int nn), .val (.int off), .val (.int e0), .val (.int e1), .val (.int e2), .val (.int e3), .val (.int p1), .val (.int p2), .val (.int p3), .val (.ref qa), .val (.ref ta)] []
  refine s_aload H at_94 rfl rfl (pc' := 96) rfl ?_
  refine s_iconst H at_96 (z := (0 : Int32)) (by decide) (pc' := 97) rfl ?_
  refine s_iload H at_97 rfl (pc' := 99) rfl ?_
  obtain ⟨l2, e_l2, hm⟩ := own_bnd hm
  refine s_iastore H at_99 (i := 5) rfl (pt_ok e_l2).1 (jn := ((0 : Int32)).toNatClampNeg) rfl (pt_ok e_l2).2.1 (pc' := 100) rfl ?_
  rw [(pt_ok e_l2).2.2]
  show Go Z k 6 42 ((da, ArI Z .boolean t1.d) :: (pa, ArI Z .int t1.p) :: (ra, ArI Z .int t1.r) :: (la, ArI Z .int t1.l) :: (ta, Obj Z "com/example/rekha/rekha/ActiveEdges" [("com/example/rekha/rekha/ActiveEdges", "nil", "I", (.int nl)), ("com/example/rekha/rekha/ActiveEdges", "left", "[I", (.ref la)), ("com/example/rekha/rekha/ActiveEdges", "right", "[I", (.ref ra)), ("com/example/rekha/rekha/ActiveEdges", "parent", "[I", (.ref pa)), ("com/example/rekha/rekha/ActiveEdges", "red", "[Z", (.ref da)), ("com/example/rekha/rekha/ActiveEdges", "root", "I", (.int t1.root))]) :: (qa, ArI Z .int l2) :: []) 100 #[.val (.int i0), .val (.int i1), .val (.int i2), .val (.int i3), .val (.int i4), .val (.int nn), .val (.int off), .val (.int e0), .val (.int e1), .val (.int e2), .val (.int e3), .val (.int p1), .val (.int p2), .val (.int p3), .val (.ref qa), .val (.ref ta)] []
  refine s_aload H at_100 rfl rfl (pc' := 102) rfl ?_
  refine s_iload H at_102 rfl (pc' := 104) rfl ?_
  refine s_iload H at_104 rfl (pc' := 106) rfl ?_
  refine s_iconst H at_106 (z := (1 : Int32)) (by decide) (pc' := 107) rfl ?_
  refine s_icmp H at_107 (py := 115) (pc' := 110) q_ne (by decide) rfl (fun c107 => ?_) (fun c107 => ?_)
  · replace hm := own_ifp c107 hm
    refine s_aload H at_115 rfl rfl (pc' := 117) rfl ?_
    refine s_iload H at_117 rfl (pc' := 119) rfl ?_
    obtain ⟨a3, e_a3, hm⟩ := own_bnd hm
    refine s_iaload H at_119 (i := 5) rfl (x := a3) (gt_ok e_a3).1 (jn := (p1).toNatClampNeg) rfl (gt_ok e_a3).2 (pc' := 120) rfl ?_
    obtain ⟨t4, e_t4, hm⟩ := own_bnd hm
    refine s_virtual H (met_ib H.tb ta la ra pa da e1 a3 e_t4) at_120 (i := 4) rfl (mem (i := 24) rfl) (mem (i := 25) rfl) (mem (i := 27) rfl) (mem (i := 26) rfl) (mem (i := 4) rfl) (mem (i := 28) rfl) (by decide) pd_3 rfl (rest := []) rfl rfl (by decide) (Nat.le_of_ble_eq_true rfl) (cn' := 6) (sn' := 42) rfl rfl (by decide) (by decide) (pc' := 123) rfl (fun v0 M0 hq => ?_)
    obtain ⟨rfl, hm0⟩ := hq
    subst M0
    show Go Z k 6 42 ((da, ArI Z .boolean t4.d) :: (pa, ArI Z .int t4.p) :: (ra, ArI Z .int t4.r) :: (la, ArI Z .int t4.l) :: (ta, Obj Z "com/example/rekha/rekha/ActiveEdges" [("com/example/rekha/rekha/ActiveEdges", "nil", "I", (.int nl)), ("com/example/rekha/rekha/ActiveEdges", "left", "[I", (.ref la)), ("com/example/rekha/rekha/ActiveEdges", "right", "[I", (.ref ra)), ("com/example/rekha/rekha/ActiveEdges", "parent", "[I", (.ref pa)), ("com/example/rekha/rekha/ActiveEdges", "red", "[Z", (.ref da)), ("com/example/rekha/rekha/ActiveEdges", "root", "I", (.int t4.root))]) :: (qa, ArI Z .int l2) :: []) 123 #[.val (.int i0), .val (.int i1), .val (.int i2), .val (.int i3), .val (.int i4), .val (.int nn), .val (.int off), .val (.int e0), .val (.int e1), .val (.int e2), .val (.int e3), .val (.int p1), .val (.int p2), .val (.int p3), .val (.ref qa), .val (.ref ta)] []
    refine s_aload H at_123 rfl rfl (pc' := 125) rfl ?_
    refine s_iconst H at_125 (z := (1 : Int32)) (by decide) (pc' := 126) rfl ?_
    refine s_iload H at_126 rfl (pc' := 128) rfl ?_
    refine s_iload H at_128 rfl (pc' := 130) rfl ?_
    obtain ⟨t5, e_t5, hm⟩ := own_bnd hm
    refine s_static H (met_put H.tb ta la ra pa da qa (1 : Int32) p1 e1 e_t5) at_130 (mem (i := 33) rfl) (mem (i := 34) rfl) (mem (i := 35) rfl) (mem (i := 36) rfl) (by decide) pd_5 rfl (rest := []) rfl rfl (by decide) (Nat.le_of_ble_eq_true rfl) (cn' := 6) (sn' := 42) rfl rfl (by decide) (by decide) (pc' := 133) rfl (fun v0 M0 hq => ?_)
    obtain ⟨rfl, hm0⟩ := hq
    subst M0
    show Go Z k 6 42 ((da, ArI Z .boolean t5.t.d) :: (pa, ArI Z .int t5.t.p) :: (ra, ArI Z .int t5.t.r) :: (la, ArI Z .int t5.t.l) :: (ta, Obj Z "com/example/rekha/rekha/ActiveEdges" [("com/example/rekha/rekha/ActiveEdges", "nil", "I", (.int nl)), ("com/example/rekha/rekha/ActiveEdges", "left", "[I", (.ref la)), ("com/example/rekha/rekha/ActiveEdges", "right", "[I", (.ref ra)), ("com/example/rekha/rekha/ActiveEdges", "parent", "[I", (.ref pa)), ("com/example/rekha/rekha/ActiveEdges", "red", "[Z", (.ref da)), ("com/example/rekha/rekha/ActiveEdges", "root", "I", (.int t5.t.root))]) :: (qa, ArI Z .int t5.q) :: []) 133 #[.val (.int i0), .val (.int i1), .val (.int i2), .val (.int i3), .val (.int i4), .val (.int nn), .val (.int off), .val (.int e0), .val (.int e1), .val (.int e2), .val (.int e3), .val (.int p1), .val (.int p2), .val (.int p3), .val (.ref qa), .val (.ref ta)] []
    exact s133 H hm
  · replace hm := own_ifn c107 hm
    refine s_iload H at_110 rfl (pc' := 112) rfl ?_
    refine s_goto H at_112 (pc' := 120) (by decide) ?_
    obtain ⟨t6, e_t6, hm⟩ := own_bnd hm
    refine s_virtual H (met_ib H.tb ta la ra pa da e1 nn e_t6) at_120 (i := 4) rfl (mem (i := 24) rfl) (mem (i := 25) rfl) (mem (i := 27) rfl) (mem (i := 26) rfl) (mem (i := 4) rfl) (mem (i := 28) rfl) (by decide) pd_3 rfl (rest := []) rfl rfl (by decide) (Nat.le_of_ble_eq_true rfl) (cn' := 6) (sn' := 42) rfl rfl (by decide) (by decide) (pc' := 123) rfl (fun v0 M0 hq => ?_)
    obtain ⟨rfl, hm0⟩ := hq
    subst M0
    show Go Z k 6 42 ((da, ArI Z .boolean t6.d) :: (pa, ArI Z .int t6.p) :: (ra, ArI Z .int t6.r) :: (la, ArI Z .int t6.l) :: (ta, Obj Z "com/example/rekha/rekha/ActiveEdges" [("com/example/rekha/rekha/ActiveEdges", "nil", "I", (.int nl)), ("com/example/rekha/rekha/ActiveEdges", "left", "[I", (.ref la)), ("com/example/rekha/rekha/ActiveEdges", "right", "[I", (.ref ra)), ("com/example/rekha/rekha/ActiveEdges", "parent", "[I", (.ref pa)), ("com/example/rekha/rekha/ActiveEdges", "red", "[Z", (.ref da)), ("com/example/rekha/rekha/ActiveEdges", "root", "I", (.int t6.root))]) :: (qa, ArI Z .int l2) :: []) 123 #[.val (.int i0), .val (.int i1), .val (.int i2), .val (.int i3), .val (.int i4), .val (.int nn), .val (.int off), .val (.int e0), .val (.int e1), .val (.int e2), .val (.int e3), .val (.int p1), .val (.int p2), .val (.int p3), .val (.ref qa), .val (.ref ta)] []
    refine s_aload H at_123 rfl rfl (pc' := 125) rfl ?_
    refine s_iconst H at_125 (z := (1 : Int32)) (by decide) (pc' := 126) rfl ?_
    refine s_iload H at_126 rfl (pc' := 128) rfl ?_
    refine s_iload H at_128 rfl (pc' := 130) rfl ?_
    obtain ⟨t7, e_t7, hm⟩ := own_bnd hm
    refine s_static H (met_put H.tb ta la ra pa da qa (1 : Int32) p1 e1 e_t7) at_130 (mem (i := 33) rfl) (mem (i := 34) rfl) (mem (i := 35) rfl) (mem (i := 36) rfl) (by decide) pd_5 rfl (rest := []) rfl rfl (by decide) (Nat.le_of_ble_eq_true rfl) (cn' := 6) (sn' := 42) rfl rfl (by decide) (by decide) (pc' := 133) rfl (fun v0 M0 hq => ?_)
    obtain ⟨rfl, hm0⟩ := hq
    subst M0
    show Go Z k 6 42 ((da, ArI Z .boolean t7.t.d) :: (pa, ArI Z .int t7.t.p) :: (ra, ArI Z .int t7.t.r) :: (la, ArI Z .int t7.t.l) :: (ta, Obj Z "com/example/rekha/rekha/ActiveEdges" [("com/example/rekha/rekha/ActiveEdges", "nil", "I", (.int nl)), ("com/example/rekha/rekha/ActiveEdges", "left", "[I", (.ref la)), ("com/example/rekha/rekha/ActiveEdges", "right", "[I", (.ref ra)), ("com/example/rekha/rekha/ActiveEdges", "parent", "[I", (.ref pa)), ("com/example/rekha/rekha/ActiveEdges", "red", "[Z", (.ref da)), ("com/example/rekha/rekha/ActiveEdges", "root", "I", (.int t7.t.root))]) :: (qa, ArI Z .int t7.q) :: []) 133 #[.val (.int i0), .val (.int i1), .val (.int i2), .val (.int i3), .val (.int i4), .val (.int nn), .val (.int off), .val (.int e0), .val (.int e1), .val (.int e2), .val (.int e3), .val (.int p1), .val (.int p2), .val (.int p3), .val (.ref qa), .val (.ref ta)] []
    exact s133 H hm
def m_law (nn e0 e1 e2 e3 p1 p2 p3 : Int32) : Option Int32 := (m_s85 nn (List.replicate (nn + (1 : Int32)).toNatClampNeg 0) (List.replicate (nn + (1 : Int32)).toNatClampNeg 0) (List.replicate (nn + (1 : Int32)).toNatClampNeg 0) (List.replicate (nn + (1 : Int32)).toNatClampNeg 0) nn ([(0 : Int32), (0 : Int32), (0 : Int32), (0 : Int32)] : List Int32) nn e0 e1 e2 e3 p1 p2 p3)
set_option maxRecDepth 65536 in
set_option maxHeartbeats 40000000 in
theorem s69 {Z : State} {k : Cx} {i0 i1 i2 i3 i4 nn off e0 e1 e2 e3 p1 p2 p3 : Int32} (H : Ok Z k room_1 (LQ) x code maxLocals ret) (hm : m_law nn e0 e1 e2 e3 p1 p2 p3 = some 1) (h0 : ¬ nn + (1 : Int32) < 0) (hc : (nn + (1 : Int32)).toNatClampNeg ≤ 8) : Go Z k 0 0 ([] : Hp) 69 #[.val (.int i0), .val (.int i1), .val (.int i2), .val (.int i3), .val (.int i4), .val (.int nn), .val (.int off), .val (.int e0), .val (.int e1), .val (.int e2), .val (.int e3), .val (.int p1), .val (.int p2), .val (.int p3), .unset, .unset] [] := by
  unfold m_law at hm
  refine s_iconst H at_69 (z := (4 : Int32)) (by decide) (pc' := 70) rfl ?_
  refine s_newarr_int H at_70 (mem (i := 1) rfl) (by decide) (cap := 4) (by decide) (by decide) (cn' := 1) (sn' := 4) rfl rfl (by decide) (by decide) (pc' := 72) rfl (fun qa => ?_)
  show Go Z k 1 4 ((qa, ArI Z .int ([(0 : Int32), (0 : Int32), (0 : Int32), (0 : Int32)] : List Int32)) :: []) 72 #[.val (.int i0), .val (.int i1), .val (.int i2), .val (.int i3), .val (.int i4), .val (.int nn), .val (.int off), .val (.int e0), .val (.int e1), .val (.int e2), .val (.int e3), .val (.int p1), .val (.int p2), .val (.int p3), .unset, .unset] [(.ref qa)]
  refine s_astore H at_72 (L' := #[.val (.int i0), .val (.int i1), .val (.int i2), .val (.int i3), .val (.int i4), .val (.int nn), .val (.int off), .val (.int e0), .val (.int e1), .val (.int e2), .val (.int e3), .val (.int p1), .val (.int p2), .val (.int p3), .val (.ref qa), .unset]) rfl rfl (pc' := 74) rfl ?_
  refine s_new H (C := "com/example/rekha/rekha/ActiveEdges") [("com/example/rekha/rekha/ActiveEdges", "nil", "I", (.int (0 : Int32))), ("com/example/rekha/rekha/ActiveEdges", "left", "[I", .null), ("com/example/rekha/rekha/ActiveEdges", "right", "[I", .null), ("com/example/rekha/rekha/ActiveEdges", "parent", "[I", .null), ("com/example/rekha/rekha/ActiveEdges", "red", "[Z", .null), ("com/example/rekha/rekha/ActiveEdges", "root", "I", (.int (0 : Int32)))] at_74 (mem (i := 2) rfl) (mem (i := 3) rfl) (mem (i := 4) rfl) (allC ⟨Or.inr (mem (i := 12) rfl), .int, by decide, rfl⟩ (allC ⟨Or.inr (mem (i := 14) rfl), (.array .int), by decide, rfl⟩ (allC ⟨Or.inr (mem (i := 16) rfl), (.array .int), by decide, rfl⟩ (allC ⟨Or.inr (mem (i := 18) rfl), (.array .int), by decide, rfl⟩ (allC ⟨Or.inr (mem (i := 21) rfl), (.array .boolean), by decide, rfl⟩ (allC ⟨Or.inl (mem (i := 23) rfl), .int, by decide, rfl⟩ allN)))))) (by decide) (cn' := 2) (sn' := 10) rfl rfl (by decide) (by decide) (pc' := 77) rfl (fun ta => ?_)
  refine s_dup H at_77 rfl (pc' := 78) rfl ?_
  refine s_iload H at_78 rfl (pc' := 80) rfl ?_
  refine s_init H (met_in H.tb ta nn h0 hc) at_80 rfl (mem (i := 5) rfl) (mem (i := 6) rfl) (mem (i := 4) rfl) (mem (i := 7) rfl) (by decide) pd_1 rfl (rest := [(.ref ta)]) rfl rfl (by decide) (Nat.le_of_ble_eq_true rfl) (cn' := 6) (sn' := 42) rfl rfl (by decide) (by decide) (pc' := 83) rfl (fun v0 M0 hq => ?_)
  obtain ⟨la, ra, pa, da, rfl, hm0⟩ := hq
  subst M0
  show Go Z k 6 42 ((da, ArI Z .boolean (List.replicate (nn + (1 : Int32)).toNatClampNeg 0)) :: (pa, ArI Z .int (List.replicate (nn + (1 : Int32)).toNatClampNeg 0)) :: (ra, ArI Z .int (List.replicate (nn + (1 : Int32)).toNatClampNeg 0)) :: (la, ArI Z .int (List.replicate (nn + (1 : Int32)).toNatClampNeg 0)) :: (ta, Obj Z "com/example/rekha/rekha/ActiveEdges" [("com/example/rekha/rekha/ActiveEdges", "nil", "I", (.int nn)), ("com/example/rekha/rekha/ActiveEdges", "left", "[I", (.ref la)), ("com/example/rekha/rekha/ActiveEdges", "right", "[I", (.ref ra)), ("com/example/rekha/rekha/ActiveEdges", "parent", "[I", (.ref pa)), ("com/example/rekha/rekha/ActiveEdges", "red", "[Z", (.ref da)), ("com/example/rekha/rekha/ActiveEdges", "root", "I", (.int nn))]) :: (qa, ArI Z .int ([(0 : Int32), (0 : Int32), (0 : Int32), (0 : Int32)] : List Int32)) :: []) 83 #[.val (.int i0), .val (.int i1), .val (.int i2), .val (.int i3), .val (.int i4), .val (.int nn), .val (.int off), .val (.int e0), .val (.int e1), .val (.int e2), .val (.int e3), .val (.int p1), .val (.int p2), .val (.int p3), .val (.ref qa), .unset] [(.ref ta)]
  refine s_astore H at_83 (L' := #[.val (.int i0), .val (.int i1), .val (.int i2), .val (.int i3), .val (.int i4), .val (.int nn), .val (.int off), .val (.int e0), .val (.int e1), .val (.int e2), .val (.int e3), .val (.int p1), .val (.int p2), .val (.int p3), .val (.ref qa), .val (.ref ta)]) rfl rfl (pc' := 85) rfl ?_
  exact s85 H hm
theorem own_in4 {z : Int32} (h0 : 0 ≤ z.toInt) (h1 : z.toInt < 4) : z ∈ ([0, 1, 2, 3] : List Int32) := by
  have : z = 0 ∨ z = 1 ∨ z = 2 ∨ z = 3 := by
    simp only [← Int32.toInt_inj, show (0 : Int32).toInt = 0 from by decide, show (1 : Int32).toInt = 1 from by decide, show (2 : Int32).toInt = 2 from by decide, show (3 : Int32).toInt = 3 from by decide]
    omega
  rcases this with rfl | rfl | rfl | rfl <;> decide
theorem own_in3 {z : Int32} (h0 : 0 ≤ z.toInt) (h1 : z.toInt < 3) : z ∈ ([0, 1, 2] : List Int32) := by
  have : z = 0 ∨ z = 1 ∨ z = 2 := by
    simp only [← Int32.toInt_inj, show (0 : Int32).toInt = 0 from by decide, show (1 : Int32).toInt = 1 from by decide, show (2 : Int32).toInt = 2 from by decide]
    omega
  rcases this with rfl | rfl | rfl <;> decide
theorem own_in2 {z : Int32} (h0 : 0 ≤ z.toInt) (h1 : z.toInt < 2) : z ∈ ([0, 1] : List Int32) := by
  have : z = 0 ∨ z = 1 := by
    simp only [← Int32.toInt_inj, show (0 : Int32).toInt = 0 from by decide, show (1 : Int32).toInt = 1 from by decide]
    omega
  rcases this with rfl | rfl <;> decide
theorem own_rm4 (i : Int32) : (i &&& (2147483647 : Int32)) % (4 : Int32) ∈ ([0, 1, 2, 3] : List Int32) := by
  have hm := c_mask i 2147483647 31 (by decide) (by decide)
  have hr := (c_irem (i &&& 2147483647) 4 4 (by decide)).1 (by omega)
  exact own_in4 (by omega) (by omega)
theorem own_rm3 (i : Int32) : (i &&& (2147483647 : Int32)) % (3 : Int32) ∈ ([0, 1, 2] : List Int32) := by
  have hm := c_mask i 2147483647 31 (by decide) (by decide)
  have hr := (c_irem (i &&& 2147483647) 3 3 (by decide)).1 (by omega)
  exact own_in3 (by omega) (by omega)
theorem own_rm2 (i : Int32) : (i &&& (2147483647 : Int32)) % (2 : Int32) ∈ ([0, 1] : List Int32) := by
  have hm := c_mask i 2147483647 31 (by decide) (by decide)
  have hr := (c_irem (i &&& 2147483647) 2 2 (by decide)).1 (by omega)
  exact own_in2 (by omega) (by omega)
theorem own_an3 (i : Int32) : i &&& (3 : Int32) ∈ ([0, 1, 2, 3] : List Int32) := by
  have hm := c_mask i 3 2 (by decide) (by decide)
  exact own_in4 (by omega) (by omega)
theorem own_an1 (i : Int32) : i &&& (1 : Int32) ∈ ([0, 1] : List Int32) := by
  have hm := c_mask i 1 1 (by decide) (by decide)
  exact own_in2 (by omega) (by omega)
def offs (nn : Int32) : List Int32 := if nn = 4 then [0, 1, 2, 3] else if nn = 5 then [0, 1, 2, 3, 4] else if nn = 6 then [0, 1, 2, 3, 4, 5] else [0, 1, 2, 3, 4, 5, 6]
set_option maxRecDepth 65536 in
theorem law_tab : ∀ n ∈ ([4, 5, 6, 7] : List Int32), ∀ o ∈ offs n, ∀ a ∈ ([0, 1] : List Int32), ∀ b ∈ ([0, 1, 2] : List Int32), ∀ c ∈ ([0, 1, 2, 3] : List Int32), m_law n o ((o + (1 : Int32)) % n) ((o + (2 : Int32)) % n) ((o + (3 : Int32)) % n) a b c = some 1 := by decide +kernel
theorem own_in5 {z : Int32} (h0 : 0 ≤ z.toInt) (h1 : z.toInt < 5) : z ∈ ([0, 1, 2, 3, 4] : List Int32) := by
  have : z = 0 ∨ z = 1 ∨ z = 2 ∨ z = 3 ∨ z = 4 := by
    simp only [← Int32.toInt_inj, show (0 : Int32).toInt = 0 from by decide, show (1 : Int32).toInt = 1 from by decide, show (2 : Int32).toInt = 2 from by decide, show (3 : Int32).toInt = 3 from by decide, show (4 : Int32).toInt = 4 from by decide]
    omega
  rcases this with rfl | rfl | rfl | rfl | rfl <;> decide
theorem own_in6 {z : Int32} (h0 : 0 ≤ z.toInt) (h1 : z.toInt < 6) : z ∈ ([0, 1, 2, 3, 4, 5] : List Int32) := by
  have : z = 0 ∨ z = 1 ∨ z = 2 ∨ z = 3 ∨ z = 4 ∨ z = 5 := by
    simp only [← Int32.toInt_inj, show (0 : Int32).toInt = 0 from by decide, show (1 : Int32).toInt = 1 from by decide, show (2 : Int32).toInt = 2 from by decide, show (3 : Int32).toInt = 3 from by decide, show (4 : Int32).toInt = 4 from by decide, show (5 : Int32).toInt = 5 from by decide]
    omega
  rcases this with rfl | rfl | rfl | rfl | rfl | rfl <;> decide
theorem own_in7 {z : Int32} (h0 : 0 ≤ z.toInt) (h1 : z.toInt < 7) : z ∈ ([0, 1, 2, 3, 4, 5, 6] : List Int32) := by
  have : z = 0 ∨ z = 1 ∨ z = 2 ∨ z = 3 ∨ z = 4 ∨ z = 5 ∨ z = 6 := by
    simp only [← Int32.toInt_inj, show (0 : Int32).toInt = 0 from by decide, show (1 : Int32).toInt = 1 from by decide, show (2 : Int32).toInt = 2 from by decide, show (3 : Int32).toInt = 3 from by decide, show (4 : Int32).toInt = 4 from by decide, show (5 : Int32).toInt = 5 from by decide, show (6 : Int32).toInt = 6 from by decide]
    omega
  rcases this with rfl | rfl | rfl | rfl | rfl | rfl | rfl <;> decide
theorem own_n (i : Int32) : (4 : Int32) + (i &&& (3 : Int32)) ∈ ([4, 5, 6, 7] : List Int32) := by
  have h := own_an3 i
  generalize i &&& (3 : Int32) = z at *
  revert z
  decide
theorem own_nz : ∀ n ∈ ([4, 5, 6, 7] : List Int32), n ≠ 0 := by decide
theorem own_h0 : ∀ n ∈ ([4, 5, 6, 7] : List Int32), ¬ n + (1 : Int32) < 0 := by decide
theorem own_hc : ∀ n ∈ ([4, 5, 6, 7] : List Int32), (n + (1 : Int32)).toNatClampNeg ≤ 8 := by decide
theorem own_off (i n : Int32) (hn : n ∈ ([4, 5, 6, 7] : List Int32)) : (i &&& (2147483647 : Int32)) % n ∈ offs n := by
  have hm := c_mask i 2147483647 31 (by decide) (by decide)
  have e : n = 4 ∨ n = 5 ∨ n = 6 ∨ n = 7 := by simpa using hn
  rcases e with rfl | rfl | rfl | rfl
  · have hr := (c_irem (i &&& 2147483647) 4 4 (by decide)).1 (by omega)
    exact own_in4 (by omega) (by omega)
  · have hr := (c_irem (i &&& 2147483647) 5 5 (by decide)).1 (by omega)
    exact own_in5 (by omega) (by omega)
  · have hr := (c_irem (i &&& 2147483647) 6 6 (by decide)).1 (by omega)
    exact own_in6 (by omega) (by omega)
  · have hr := (c_irem (i &&& 2147483647) 7 7 (by decide)).1 (by omega)
    exact own_in7 (by omega) (by omega)
set_option maxRecDepth 65536 in
set_option maxHeartbeats 40000000 in
theorem s0 {Z : State} {k : Cx} {i0 i1 i2 i3 i4 : Int32} (H : Ok Z k room_1 (LQ) x code maxLocals ret)  : Go Z k 0 0 ([] : Hp) 0 #[.val (.int i0), .val (.int i1), .val (.int i2), .val (.int i3), .val (.int i4), .unset, .unset, .unset, .unset, .unset, .unset, .unset, .unset, .unset, .unset, .unset] [] := by
  refine s_iconst H at_0 (z := (4 : Int32)) (by decide) (pc' := 1) rfl ?_
  refine s_iloadn H at_1 rfl (pc' := 2) rfl ?_
  refine s_iconst H at_2 (z := (3 : Int32)) (by decide) (pc' := 3) rfl ?_
  refine s_iand H at_3 (pc' := 4) rfl ?_
  refine s_iadd H at_4 (pc' := 5) rfl ?_
  refine s_istore H at_5 (L' := fun z => #[.val (.int i0), .val (.int i1), .val (.int i2), .val (.int i3), .val (.int i4), .val (.int z), .unset, .unset, .unset, .unset, .unset, .unset, .unset, .unset, .unset, .unset]) (fun _ => rfl) (pc' := 7) rfl (fun nn h_nn => ?_)
  have hn : nn ∈ ([4, 5, 6, 7] : List Int32) := by rw [h_nn]; exact own_n i3
  have hz := own_nz nn hn
  refine s_iload H at_7 rfl (pc' := 9) rfl ?_
  refine s_ldc H at_9 (mem (i := 0) rfl) (pc' := 11) rfl ?_
  refine s_iand H at_11 (pc' := 12) rfl ?_
  refine s_iload H at_12 rfl (pc' := 14) rfl ?_
  refine s_irem H at_14 hz (pc' := 15) rfl ?_
  refine s_istore H at_15 (L' := fun z => #[.val (.int i0), .val (.int i1), .val (.int i2), .val (.int i3), .val (.int i4), .val (.int nn), .val (.int z), .unset, .unset, .unset, .unset, .unset, .unset, .unset, .unset, .unset]) (fun _ => rfl) (pc' := 17) rfl (fun off h_off => ?_)
  refine s_iload H at_17 rfl (pc' := 19) rfl ?_
  refine s_istore H at_19 (L' := fun z => #[.val (.int i0), .val (.int i1), .val (.int i2), .val (.int i3), .val (.int i4), .val (.int nn), .val (.int off), .val (.int z), .unset, .unset, .unset, .unset, .unset, .unset, .unset, .unset]) (fun _ => rfl) (pc' := 21) rfl (fun z0 hz => ?_)
  subst z0
  refine s_iload H at_21 rfl (pc' := 23) rfl ?_
  refine s_iconst H at_23 (z := (1 : Int32)) (by decide) (pc' := 24) rfl ?_
  refine s_iadd H at_24 (pc' := 25) rfl ?_
  refine s_iload H at_25 rfl (pc' := 27) rfl ?_
  refine s_irem H at_27 hz (pc' := 28) rfl ?_
  refine s_istore H at_28 (L' := fun z => #[.val (.int i0), .val (.int i1), .val (.int i2), .val (.int i3), .val (.int i4), .val (.int nn), .val (.int off), .val (.int off), .val (.int z), .unset, .unset, .unset, .unset, .unset, .unset, .unset]) (fun _ => rfl) (pc' := 30) rfl (fun e1 h_e1 => ?_)
  refine s_iload H at_30 rfl (pc' := 32) rfl ?_
  refine s_iconst H at_32 (z := (2 : Int32)) (by decide) (pc' := 33) rfl ?_
  refine s_iadd H at_33 (pc' := 34) rfl ?_
  refine s_iload H at_34 rfl (pc' := 36) rfl ?_
  refine s_irem H at_36 hz (pc' := 37) rfl ?_
  refine s_istore H at_37 (L' := fun z => #[.val (.int i0), .val (.int i1), .val (.int i2), .val (.int i3), .val (.int i4), .val (.int nn), .val (.int off), .val (.int off), .val (.int e1), .val (.int z), .unset, .unset, .unset, .unset, .unset, .unset]) (fun _ => rfl) (pc' := 39) rfl (fun e2 h_e2 => ?_)
  refine s_iload H at_39 rfl (pc' := 41) rfl ?_
  refine s_iconst H at_41 (z := (3 : Int32)) (by decide) (pc' := 42) rfl ?_
  refine s_iadd H at_42 (pc' := 43) rfl ?_
  refine s_iload H at_43 rfl (pc' := 45) rfl ?_
  refine s_irem H at_45 hz (pc' := 46) rfl ?_
  refine s_istore H at_46 (L' := fun z => #[.val (.int i0), .val (.int i1), .val (.int i2), .val (.int i3), .val (.int i4), .val (.int nn), .val (.int off), .val (.int off), .val (.int e1), .val (.int e2), .val (.int z), .unset, .unset, .unset, .unset, .unset]) (fun _ => rfl) (pc' := 48) rfl (fun e3 h_e3 => ?_)
  refine s_iloadn H at_48 rfl (pc' := 49) rfl ?_
  refine s_iconst H at_49 (z := (1 : Int32)) (by decide) (pc' := 50) rfl ?_
  refine s_iand H at_50 (pc' := 51) rfl ?_
  refine s_istore H at_51 (L' := fun z => #[.val (.int i0), .val (.int i1), .val (.int i2), .val (.int i3), .val (.int i4), .val (.int nn), .val (.int off), .val (.int off), .val (.int e1), .val (.int e2), .val (.int e3), .val (.int z), .unset, .unset, .unset, .unset]) (fun _ => rfl) (pc' := 53) rfl (fun p1 h_p1 => ?_)
  refine s_iloadn H at_53 rfl (pc' := 54) rfl ?_
  refine s_ldc H at_54 (mem (i := 0) rfl) (pc' := 56) rfl ?_
  refine s_iand H at_56 (pc' := 57) rfl ?_
  refine s_iconst H at_57 (z := (3 : Int32)) (by decide) (pc' := 58) rfl ?_
  refine s_irem H at_58 (by decide) (pc' := 59) rfl ?_
  refine s_istore H at_59 (L' := fun z => #[.val (.int i0), .val (.int i1), .val (.int i2), .val (.int i3), .val (.int i4), .val (.int nn), .val (.int off), .val (.int off), .val (.int e1), .val (.int e2), .val (.int e3), .val (.int p1), .val (.int z), .unset, .unset, .unset]) (fun _ => rfl) (pc' := 61) rfl (fun p2 h_p2 => ?_)
  refine s_iloadn H at_61 rfl (pc' := 62) rfl ?_
  refine s_ldc H at_62 (mem (i := 0) rfl) (pc' := 64) rfl ?_
  refine s_iand H at_64 (pc' := 65) rfl ?_
  refine s_iconst H at_65 (z := (4 : Int32)) (by decide) (pc' := 66) rfl ?_
  refine s_irem H at_66 (by decide) (pc' := 67) rfl ?_
  refine s_istore H at_67 (L' := fun z => #[.val (.int i0), .val (.int i1), .val (.int i2), .val (.int i3), .val (.int i4), .val (.int nn), .val (.int off), .val (.int off), .val (.int e1), .val (.int e2), .val (.int e3), .val (.int p1), .val (.int p2), .val (.int z), .unset, .unset]) (fun _ => rfl) (pc' := 69) rfl (fun p3 h_p3 => ?_)
  have ho : off ∈ offs nn := by rw [h_off]; exact own_off i4 nn hn
  have hm : m_law nn off e1 e2 e3 p1 p2 p3 = some 1 := by rw [h_e1, h_e2, h_e3, h_p1, h_p2, h_p3]; exact law_tab nn hn off ho _ (own_an1 i0) _ (own_rm3 i1) _ (own_rm4 i2)
  exact s69 H hm (own_h0 nn hn) (own_hc nn hn)
theorem pl_0 : plainFor x = true := plainFor_of_name (by first | (simp [plainName, overriddenIn, x]; done) | decide +kernel)
set_option maxRecDepth 65536 in
set_option maxHeartbeats 40000000 in
theorem met_law {Z : State} (HT : Tb Z) (l : Launch) (ws : List Jvm.Cond) (i0 : Int32) (i1 : Int32) (i2 : Int32) (i3 : Int32) (i4 : Int32) (h0 : Heap) (hO : Own Z h0 []) :
    MetFree l x (head1 (Jvm.Cond.code x code maxLocals ret :: ws) room_1) (fun a U => a = [(.int i0), (.int i1), (.int i2), (.int i3), (.int i4)].toArray ∧ Z.Warmed39 U.vm ∧ U.heap = h0) (fun _ _ _ _ _ => True) (fun _ U o U' => ∃ v L, o = .returned v ∧ (Fr Z.heap.size L ∧ ∃ M, LQ v M ∧ Own Z U'.heap M) ∧ FrameEnd U o U' L room_1.cells room_1.slots) :=
  met_of l HT pl_0 (Ls := #[.val (.int i0), .val (.int i1), .val (.int i2), .val (.int i3), .val (.int i4), .unset, .unset, .unset, .unset, .unset, .unset, .unset, .unset, .unset, .unset, .unset]) (fun m => by first | (simp [entryFrame, mkF, argsToLocals, Value.category, maxLocals]; done) | rfl) hO (fun k H => s0 H)
set_option maxRecDepth 65536 in
set_option maxHeartbeats 40000000 in
theorem comes_1 {Post : Tables → Env → Array Value → State → Outcome → State → Prop} (hpost : ∀ tb e args s v u, (limb_1_1.after args s (.returned v) u = true ∧ limb_1_2.after args s (.returned v) u = true ∧ True) → FrameEnd s (.returned v) u (Jvm.fieldLocs frame_1_writes args s ++ Jvm.arrayLocs frame_1_arrays args s ++ Jvm.staticLocs frame_1_statics s) 24 192 → Post tb e args s (.returned v) u) :
    ArmFor flags0 classFile x code maxLocals ret World_1 tables_1 room_1 Calls_1 rest_1 Pre_1 Post := by
  intro l hfl _ _ p e ha hc hk s m args below hf hA hF happ hP
  obtain ⟨hcalls, hrest, hpre⟩ := hP
  obtain ⟨-, -, -, hnamed, -, -, -, hat⟩ := (Spec.applies_iff hf).mp happ
  obtain ⟨hg, hn⟩ := and_e (Cond.before_iff.mp (show (Jvm.Cond.and given_1 narrow_1).before args s = true from hpre))
  obtain ⟨hcnt, hg0⟩ := and_e hg
  obtain ⟨hv0, hg1⟩ := and_e hg0
  obtain ⟨hv1, hg2⟩ := and_e hg1
  obtain ⟨hv2, hg3⟩ := and_e hg2
  obtain ⟨hv3, hg4⟩ := and_e hg3
  obtain ⟨w0, w1, w2, w3, w4, rfl⟩ : ∃ w0 w1 w2 w3 w4 : Value, args = #[w0, w1, w2, w3, w4] := by
    have hs : args.size = 5 := by simpa [Cond.value, given_1] using hcnt
    obtain ⟨L⟩ := args
    match L, hs with
    | [w0, w1, w2, w3, w4], _ => exact ⟨w0, w1, w2, w3, w4, rfl⟩
  have hw := fun d (hd : d ∈ tables_1) => atoms_spec (ws := Jvm.Cond.code x code maxLocals ret :: tables_1) hat d (List.mem_cons_of_mem _ hd)
  obtain ⟨i0, ei0⟩ := is_v hv0
  obtain rfl : w0 = (.int i0) := Option.some.inj ei0
  obtain ⟨i1, ei1⟩ := is_v hv1
  obtain rfl : w1 = (.int i1) := Option.some.inj ei1
  obtain ⟨i2, ei2⟩ := is_v hv2
  obtain rfl : w2 = (.int i2) := Option.some.inj ei2
  obtain ⟨i3, ei3⟩ := is_v hv3
  obtain rfl : w3 = (.int i3) := Option.some.inj ei3
  obtain ⟨i4, ei4⟩ := is_v hg4
  obtain rfl : w4 = (.int i4) := Option.some.inj ei4
  have hO : Own s s.heap [] := ⟨⟨Nat.le_refl _, fun _ _ q => q⟩, fun i x hx => (by cases hx), fun i j x y hx => (by cases hx)⟩
  obtain ⟨n, o, h1, h2, h3, v, L, rfl, ⟨N, M, hv, -⟩, hq⟩ := met_law (Z := s) ⟨_, hw⟩ l tables_1 i0 i1 i2 i3 i4 s.heap hO p e ha hc hk s m _ below hf ((Spec.applies_iff_loose hf).mp happ).1 ⟨rfl, State.Warmed39.refl s, rfl⟩ trivial
  obtain rfl : v = some (.int 1) := hv
  exact ⟨n, _, h1, h2, h3, hpost _ _ _ _ _ _ ⟨Cond.after_iff.mpr rfl, Cond.after_iff.mpr (eq_i res_at (Term.int_eval (1)) rfl), trivial⟩ ⟨hq.1, hq.2.1, (hq.2.2.sift fun y hy => Or.inr (N y hy)).mono (by decide) (by decide)⟩⟩
theorem main_1_1 : Claimed_1_1 := comes_1 fun _ _ _ _ _ _ h hF => ⟨h.1, hF⟩
theorem main_1_2 : Claimed_1_2 := comes_1 fun _ _ _ _ _ _ h hF => ⟨h.2.1, hF⟩
end Jvm.Pilot.@@N@@
namespace Jvm.Pilot.@@N@@
open Jvm Jvm.ClassFile Sem Op Lib Jvm.Free Jvm.Stand Jvm.Pilot.@@N@@.Jvm.D
/-! MADE BY PROGRAM (witnessworld.py) out of the Statement's table words and the real class files: 11 classes; the members and pool entries that the words name. The judged class is class 1, her method 1. -/
namespace start1
open Jvm.ClassFile
def u (s : String) : CpInfo := .utf8 (stringToUtf16 s)
/-- a pool by its gaps: so many unusable entries, then the entry; so many at the end -/
def gap : Nat → List CpInfo → List CpInfo
  | 0, r => r
  | n + 1, r => .unusable :: gap n r
def poolList (es : List (Nat × CpInfo)) (last : Nat) : List CpInfo := es.foldr (fun e r => gap e.1 (e.2 :: r)) (gap last [])
def pool (es : List (Nat × CpInfo)) (last : Nat) : Array CpInfo := ⟨poolList es last⟩
def fileOf (pool : Array CpInfo) (this : Nat) (attrs : Array Attribute := #[]) (ms : Array MethodInfo := #[]) (fl : Nat := 33) (sup : Nat := 0) (ifs : Array Nat := #[]) (fds : Array FieldInfo := #[]) : ClassFile where
  minorVersion := 0
  majorVersion := 65
  constantPool := pool
  accessFlags := fl
  thisClass := this
  superClass := sup
  interfaces := ifs
  fields := fds
  methods := ms
  attributes := attrs
def plain (name : String) (sup : Option ClassId) : Class where
  name := name
  kind := .ordinary
  loader := none
  accessFlags := 33
  super := sup
  interfaces := #[]
  cf := none
  fields := #[]
  methods := #[]
  instanceTypes := #[]
  staticTypes := #[]
  resolved := #[]
  callSites := []
  init := .initialized
  statics := none
  mirror := none

def pool0 : Array CpInfo := pool [(5, u "<init>"), (0, u "()V"), (1, .class_ 10), (1, u "java/lang/Object")] 113

def k0c0 : Code := { maxStack := 0, maxLocals := 1, code := object_method_1_code, exceptionTable := #[], attributes := #[] }
def k0m0 : Method := { name := "<init>", desc := "()V", sig := { parameters := [], returnType := none }, accessFlags := 1, code := some k0c0 }
/-- java/lang/Object -/
def k0 : Class := { plain "java/lang/Object" none with
  accessFlags := 33
  interfaces := #[]
  cf := some (fileOf pool0 8 #[] #[{ accessFlags := 1, nameIndex := 5, descriptorIndex := 6, attributes := #[] }] 33 0 #[] #[])
  fields := #[]
  methods := #[k0m0]
  instanceTypes := #[]
  staticTypes := #[]
  resolved := Array.replicate 124 none
  statics := none }

def pool1 : Array CpInfo := pool [(2, .class_ 4), (1, u "java/lang/Object"), (0, u "<init>"), (0, u "()V"), (0, .integer 2147483647), (0, .class_ 9), (0, u "com/example/rekha/rekha/ActiveEdges"), (0, .methodref 8 11), (0, .nameAndType 5 12), (0, u "(I)V"), (0, .methodref 8 14), (0, .nameAndType 15 16), (0, u "insertBelow"), (0, u "(II)V"), (0, .methodref 18 19), (0, .class_ 20), (0, .nameAndType 21 22), (0, u "com/example/rekha/rekha/ActiveEdgesNextPinLaw"), (0, u "put"), (0, u "([IIII)V"), (0, .methodref 8 24), (0, .nameAndType 25 26), (0, u "next"), (0, u "(I)I"), (2, u "law"), (0, u "(IIIII)Z")] 5

def k1m0 : Method := { name := "<init>", desc := "()V", sig := { parameters := [], returnType := none }, accessFlags := 1, code := none }
def k1c1 : Code := { maxStack := 4, maxLocals := 16, code := code, exceptionTable := #[], attributes := #[] }
def k1m1 : Method := { name := "law", desc := "(IIIII)Z", sig := { parameters := [.int, .int, .int, .int, .int], returnType := some .boolean }, accessFlags := 9, code := some k1c1 }
def k1c2 : Code := { maxStack := 4, maxLocals := 4, code := method_3_code, exceptionTable := #[], attributes := #[] }
def k1m2 : Method := { name := "put", desc := "([IIII)V", sig := { parameters := [(.array .int), .int, .int, .int], returnType := none }, accessFlags := 10, code := some k1c2 }
/-- com/example/rekha/rekha/ActiveEdgesNextPinLaw -/
def k1 : Class := { plain "com/example/rekha/rekha/ActiveEdgesNextPinLaw" (some 0) with
  accessFlags := 49
  interfaces := #[]
  cf := some (fileOf pool1 18 #[] #[{ accessFlags := 1, nameIndex := 5, descriptorIndex := 6, attributes := #[] }, { accessFlags := 9, nameIndex := 29, descriptorIndex := 30, attributes := #[] }, { accessFlags := 10, nameIndex := 21, descriptorIndex := 22, attributes := #[] }] 49 2 #[] #[])
  fields := #[]
  methods := #[k1m0, k1m1, k1m2]
  instanceTypes := #[]
  staticTypes := #[]
  resolved := Array.replicate 36 none
  statics := none }

def pool2 : Array CpInfo := pool [(1, .methodref 2 3), (0, .class_ 4), (0, .nameAndType 5 6), (0, u "java/lang/Object"), (0, u "<init>"), (0, u "()V"), (0, .fieldref 8 9), (0, .class_ 10), (0, .nameAndType 11 12), (0, u "com/example/rekha/rekha/ActiveEdges"), (0, u "nil"), (0, u "I"), (0, .fieldref 8 14), (0, .nameAndType 15 16), (0, u "left"), (0, u "[I"), (0, .fieldref 8 18), (0, .nameAndType 19 16), (0, u "right"), (0, .fieldref 8 21), (0, .nameAndType 22 16), (0, u "parent"), (0, .fieldref 8 24), (0, .nameAndType 25 26), (0, u "red"), (0, u "[Z"), (0, .fieldref 8 28), (0, .nameAndType 29 12), (0, u "root"), (6, .methodref 8 37), (0, .nameAndType 38 39), (0, u "rightmost"), (0, u "(I)I"), (0, .methodref 8 41), (0, .nameAndType 42 39), (0, u "leftmost"), (0, .methodref 8 44), (0, .nameAndType 45 46), (0, u "afterInsertion"), (0, u "(I)V"), (0, .methodref 8 48), (0, .nameAndType 49 50), (0, u "transplant"), (0, u "(II)V"), (3, .methodref 8 55), (0, .nameAndType 56 57), (0, u "rotate"), (0, u "(IZ)V"), (8, u "next"), (1, u "insertBelow")] 3

def k2c0 : Code := { maxStack := 3, maxLocals := 2, code := prog_2_method_1_code, exceptionTable := #[], attributes := #[] }
def k2m0 : Method := { name := "<init>", desc := "(I)V", sig := { parameters := [.int], returnType := none }, accessFlags := 0, code := some k2c0 }
def k2c1 : Code := { maxStack := 3, maxLocals := 4, code := prog_2_method_5_code, exceptionTable := #[], attributes := #[] }
def k2m1 : Method := { name := "next", desc := "(I)I", sig := { parameters := [.int], returnType := some .int }, accessFlags := 0, code := some k2c1 }
def k2c2 : Code := { maxStack := 3, maxLocals := 4, code := prog_2_method_7_code, exceptionTable := #[], attributes := #[] }
def k2m2 : Method := { name := "insertBelow", desc := "(II)V", sig := { parameters := [.int, .int], returnType := none }, accessFlags := 0, code := some k2c2 }
def k2c3 : Code := { maxStack := 2, maxLocals := 3, code := prog_2_method_9_code, exceptionTable := #[], attributes := #[] }
def k2m3 : Method := { name := "leftmost", desc := "(I)I", sig := { parameters := [.int], returnType := some .int }, accessFlags := 2, code := some k2c3 }
def k2c4 : Code := { maxStack := 2, maxLocals := 3, code := prog_2_method_10_code, exceptionTable := #[], attributes := #[] }
def k2m4 : Method := { name := "rightmost", desc := "(I)I", sig := { parameters := [.int], returnType := some .int }, accessFlags := 2, code := some k2c4 }
def k2c5 : Code := { maxStack := 3, maxLocals := 4, code := prog_2_method_11_code, exceptionTable := #[], attributes := #[] }
def k2m5 : Method := { name := "transplant", desc := "(II)V", sig := { parameters := [.int, .int], returnType := none }, accessFlags := 2, code := some k2c5 }
def k2c6 : Code := { maxStack := 3, maxLocals := 7, code := prog_2_method_12_code, exceptionTable := #[], attributes := #[] }
def k2m6 : Method := { name := "afterInsertion", desc := "(I)V", sig := { parameters := [.int], returnType := none }, accessFlags := 2, code := some k2c6 }
def k2c7 : Code := { maxStack := 3, maxLocals := 5, code := prog_2_method_14_code, exceptionTable := #[], attributes := #[] }
def k2m7 : Method := { name := "rotate", desc := "(IZ)V", sig := { parameters := [.int, .boolean], returnType := none }, accessFlags := 2, code := some k2c7 }
/-- com/example/rekha/rekha/ActiveEdges -/
def k2 : Class := { plain "com/example/rekha/rekha/ActiveEdges" (some 0) with
  accessFlags := 48
  interfaces := #[]
  cf := some (fileOf pool2 8 #[] #[{ accessFlags := 0, nameIndex := 5, descriptorIndex := 46, attributes := #[] }, { accessFlags := 0, nameIndex := 66, descriptorIndex := 39, attributes := #[] }, { accessFlags := 0, nameIndex := 68, descriptorIndex := 50, attributes := #[] }, { accessFlags := 2, nameIndex := 42, descriptorIndex := 39, attributes := #[] }, { accessFlags := 2, nameIndex := 38, descriptorIndex := 39, attributes := #[] }, { accessFlags := 2, nameIndex := 49, descriptorIndex := 50, attributes := #[] }, { accessFlags := 2, nameIndex := 45, descriptorIndex := 46, attributes := #[] }, { accessFlags := 2, nameIndex := 56, descriptorIndex := 57, attributes := #[] }] 48 2 #[] #[{ accessFlags := 18, nameIndex := 11, descriptorIndex := 12, attributes := #[] }, { accessFlags := 18, nameIndex := 15, descriptorIndex := 16, attributes := #[] }, { accessFlags := 18, nameIndex := 19, descriptorIndex := 16, attributes := #[] }, { accessFlags := 18, nameIndex := 22, descriptorIndex := 16, attributes := #[] }, { accessFlags := 18, nameIndex := 25, descriptorIndex := 26, attributes := #[] }, { accessFlags := 2, nameIndex := 29, descriptorIndex := 12, attributes := #[] }])
  fields := #[{ name := "nil", type := .int, accessFlags := 18, slot := 0, constantValue := 0 }, { name := "left", type := (.array .int), accessFlags := 18, slot := 1, constantValue := 0 }, { name := "right", type := (.array .int), accessFlags := 18, slot := 2, constantValue := 0 }, { name := "parent", type := (.array .int), accessFlags := 18, slot := 3, constantValue := 0 }, { name := "red", type := (.array .boolean), accessFlags := 18, slot := 4, constantValue := 0 }, { name := "root", type := .int, accessFlags := 2, slot := 5, constantValue := 0 }]
  methods := #[k2m0, k2m1, k2m2, k2m3, k2m4, k2m5, k2m6, k2m7]
  instanceTypes := #[.int, (.array .int), (.array .int), (.array .int), (.array .boolean), .int]
  staticTypes := #[]
  resolved := Array.replicate 72 none
  statics := none }

def pool3 : Array CpInfo := pool [(1, u "java/lang/Cloneable"), (0, .class_ 1), (0, u "java/lang/Object"), (0, .class_ 3)] 3

/-- java/lang/Cloneable -/
def k3 : Class := { plain "java/lang/Cloneable" (some 0) with
  accessFlags := 1537
  interfaces := #[]
  cf := some (fileOf pool3 2 #[] #[] 1537 4 #[] #[])
  fields := #[]
  methods := #[]
  instanceTypes := #[]
  staticTypes := #[]
  resolved := Array.replicate 8 none
  statics := none }

def pool4 : Array CpInfo := pool [(1, u "java/io/Serializable"), (0, .class_ 1), (0, u "java/lang/Object"), (0, .class_ 3)] 3

/-- java/io/Serializable -/
def k4 : Class := { plain "java/io/Serializable" (some 0) with
  accessFlags := 1537
  interfaces := #[]
  cf := some (fileOf pool4 2 #[] #[] 1537 4 #[] #[])
  fields := #[]
  methods := #[]
  instanceTypes := #[]
  staticTypes := #[]
  resolved := Array.replicate 8 none
  statics := none }

/-- the primitive boolean -/
def k5 : Class := { plain "boolean" none with kind := .primitive 'Z', accessFlags := 0x411 }
/-- [Z -/
def k6 : Class := { plain "[Z" (some 0) with kind := .array 5 .boolean, interfaces := #[3, 4], accessFlags := 1041 }

/-- the primitive byte -/
def k7 : Class := { plain "byte" none with kind := .primitive 'B', accessFlags := 0x411 }
/-- [B -/
def k8 : Class := { plain "[B" (some 0) with kind := .array 7 .byte, interfaces := #[3, 4], accessFlags := 1041 }

/-- the primitive int -/
def k9 : Class := { plain "int" none with kind := .primitive 'I', accessFlags := 0x411 }
/-- [I -/
def k10 : Class := { plain "[I" (some 0) with kind := .array 9 .int, interfaces := #[3, 4], accessFlags := 1041 }

def heap : Heap := #[]
def classes : Array Class := #[k0, k1, k2, k3, k4, k5, k6, k7, k8, k9, k10]
def interned : List (Array UInt16 × Addr) := []
def slotsUsed : Nat := 0
def theMethod : MethodId := ⟨1, 1⟩
def args0 : Array Value := #[.int 1, .int 2, .int 3, .int 1, .int 5]
def aboutOver (below : List Frame) : State where
  vm := { classes := classes, interned := interned.toArray }
  heap := heap
  slotsUsed := slotsUsed
  threads := #[{ frames := .invoking theMethod args0 :: below }]
def below0 : List Frame := [.native { method := ⟨0, 0⟩, args := #[] }]
def about1 : State := aboutOver below0
def p0 : Program := .bare "" "" ""
def e0 : Env := launch0.env 0 0 0
theorem w_frames : about1.frames = Frame.invoking theMethod args0 :: below0 := rfl
set_option maxRecDepth 65536 in
theorem w_args : argsFit about1.vm theMethod args0 = true := by decide +kernel
set_option maxRecDepth 65536 in
theorem w_heap : heapFits about1 = true := by decide +kernel
set_option maxRecDepth 65536 in
theorem w_runnable : about1.curStatus? = some .runnable := by decide +kernel
set_option maxRecDepth 65536 in
theorem w_alone : about1.alone = true := by decide +kernel
set_option maxRecDepth 65536 in
theorem w_named : about1.methodNamed? x = some theMethod := by decide +kernel
set_option maxRecDepth 65536 in
theorem w_hears : about1.hears theMethod below0 = true := by decide +kernel
set_option maxRecDepth 65536 in
theorem w_ripe : about1.ripe theMethod args0 below0 = true := by decide +kernel
theorem w_running : about1.status = .running := rfl
set_option maxRecDepth 65536 in
theorem w_room : about1.hasRoom e0.platform room_1 = true :=
  launch0.hasRoom_least _ room_1 (by decide +kernel) (by decide +kernel) (by decide +kernel) (by decide +kernel) (by decide +kernel) (by decide +kernel)
theorem allAtoms_all (ts : List Jvm.Cond) (a : Array Jvm.Value) (st : Jvm.State) : (allAtoms ts).before a st = ts.all (fun c => c.before a st) := by
  induction ts with
  | nil => rfl
  | cons c t ih =>
    show (Jvm.Cond.and c (allAtoms t)).before a st = _
    rw [Jvm.Cond.before_and, ih, List.all_cons]
def words1 : List Jvm.Cond := Jvm.Cond.code x code maxLocals ret :: tables_1
/-- a 'code' word, met by the world's own term for the bytes: nothing is compared byte by byte -/
theorem code_word {y : MethodName} {bytes : ByteArray} {mx : Nat} {rt : Option FieldType} {a : Array Value} {s : State} {m : MethodId} {meth : Method} {c : Code} (h1 : s.methodNamed? y = some m) (h2 : s.vm.method? m = some meth) (h3 : meth.code = some c) (h4 : c.code = bytes)
    (h5 : (c.maxLocals == mx && c.exceptionTable.isEmpty && decide (c.maxStack ≤ mostOperands) && decide (meth.sig.returnType = rt) && !meth.locks && decide (parseMethodDescriptor y.desc = some meth.sig)) = true) : (Jvm.Cond.code y bytes mx rt).before a s = true := by
  simp only [Bool.and_eq_true, beq_iff_eq, Bool.not_eq_true', decide_eq_true_eq] at h5
  obtain ⟨⟨⟨⟨⟨g1, g2⟩, g3⟩, g4⟩, g5⟩, g6⟩ := h5
  simp [Cond.before, Cond.holds, Cond.value, h1, h2, h3, h4, g1, g2, g3, g4, g5, g6]
def isCode : Jvm.Cond → Bool
  | .code _ _ _ _ => true
  | _ => false
theorem all_split {L : List Jvm.Cond} {P : Jvm.Cond → Bool} (h1 : L.all (fun c => isCode c || P c) = true) (h2 : ∀ c ∈ L.filter isCode, P c = true) : L.all P = true := by
  refine List.all_eq_true.mpr fun c hc => ?_
  have h := List.all_eq_true.mp h1 c hc
  rcases Bool.eq_false_or_eq_true (isCode c) with hi | hi
  · exact h2 c (List.mem_filter.mpr ⟨hc, hi⟩)
  · simpa [hi] using h
set_option maxRecDepth 65536 in
theorem w_c0 : (Jvm.Cond.code x code maxLocals ret).before args0 about1 = true := code_word (m := ⟨1, 1⟩) (meth := k1m1) (c := k1c1) (by decide +kernel) rfl rfl rfl (by decide +kernel)
set_option maxRecDepth 65536 in
theorem w_c1 : (Jvm.Cond.code ({ cls := "com/example/rekha/rekha/ActiveEdges", name := "<init>", desc := "(I)V" } : Jvm.MethodName) prog_2_method_1_code (2 : Nat) (Option.none : Option Jvm.ClassFile.FieldType)).before args0 about1 = true := code_word (m := ⟨2, 0⟩) (meth := k2m0) (c := k2c0) (by decide +kernel) rfl rfl rfl (by decide +kernel)
set_option maxRecDepth 65536 in
theorem w_c2 : (Jvm.Cond.code ({ cls := "java/lang/Object", name := "<init>", desc := "()V" } : Jvm.MethodName) object_method_1_code (1 : Nat) (Option.none : Option Jvm.ClassFile.FieldType)).before args0 about1 = true := code_word (m := ⟨0, 0⟩) (meth := k0m0) (c := k0c0) (by decide +kernel) rfl rfl rfl (by decide +kernel)
set_option maxRecDepth 65536 in
theorem w_c3 : (Jvm.Cond.code ({ cls := "com/example/rekha/rekha/ActiveEdges", name := "insertBelow", desc := "(II)V" } : Jvm.MethodName) prog_2_method_7_code (4 : Nat) (Option.none : Option Jvm.ClassFile.FieldType)).before args0 about1 = true := code_word (m := ⟨2, 2⟩) (meth := k2m2) (c := k2c2) (by decide +kernel) rfl rfl rfl (by decide +kernel)
set_option maxRecDepth 65536 in
theorem w_c4 : (Jvm.Cond.code ({ cls := "com/example/rekha/rekha/ActiveEdges", name := "afterInsertion", desc := "(I)V" } : Jvm.MethodName) prog_2_method_12_code (7 : Nat) (Option.none : Option Jvm.ClassFile.FieldType)).before args0 about1 = true := code_word (m := ⟨2, 6⟩) (meth := k2m6) (c := k2c6) (by decide +kernel) rfl rfl rfl (by decide +kernel)
set_option maxRecDepth 65536 in
theorem w_c5 : (Jvm.Cond.code ({ cls := "com/example/rekha/rekha/ActiveEdgesNextPinLaw", name := "put", desc := "([IIII)V" } : Jvm.MethodName) method_3_code (4 : Nat) (Option.none : Option Jvm.ClassFile.FieldType)).before args0 about1 = true := code_word (m := ⟨1, 2⟩) (meth := k1m2) (c := k1c2) (by decide +kernel) rfl rfl rfl (by decide +kernel)
set_option maxRecDepth 65536 in
theorem w_c6 : (Jvm.Cond.code ({ cls := "com/example/rekha/rekha/ActiveEdges", name := "rotate", desc := "(IZ)V" } : Jvm.MethodName) prog_2_method_14_code (5 : Nat) (Option.none : Option Jvm.ClassFile.FieldType)).before args0 about1 = true := code_word (m := ⟨2, 7⟩) (meth := k2m7) (c := k2c7) (by decide +kernel) rfl rfl rfl (by decide +kernel)
set_option maxRecDepth 65536 in
theorem w_c7 : (Jvm.Cond.code ({ cls := "com/example/rekha/rekha/ActiveEdges", name := "transplant", desc := "(II)V" } : Jvm.MethodName) prog_2_method_11_code (4 : Nat) (Option.none : Option Jvm.ClassFile.FieldType)).before args0 about1 = true := code_word (m := ⟨2, 5⟩) (meth := k2m5) (c := k2c5) (by decide +kernel) rfl rfl rfl (by decide +kernel)
set_option maxRecDepth 65536 in
theorem w_c8 : (Jvm.Cond.code ({ cls := "com/example/rekha/rekha/ActiveEdges", name := "next", desc := "(I)I" } : Jvm.MethodName) prog_2_method_5_code (4 : Nat) (Option.some Jvm.ClassFile.FieldType.int)).before args0 about1 = true := code_word (m := ⟨2, 1⟩) (meth := k2m1) (c := k2c1) (by decide +kernel) rfl rfl rfl (by decide +kernel)
set_option maxRecDepth 65536 in
theorem w_c9 : (Jvm.Cond.code ({ cls := "com/example/rekha/rekha/ActiveEdges", name := "leftmost", desc := "(I)I" } : Jvm.MethodName) prog_2_method_9_code (3 : Nat) (Option.some Jvm.ClassFile.FieldType.int)).before args0 about1 = true := code_word (m := ⟨2, 3⟩) (meth := k2m3) (c := k2c3) (by decide +kernel) rfl rfl rfl (by decide +kernel)
set_option maxRecDepth 65536 in
theorem w_c10 : (Jvm.Cond.code ({ cls := "com/example/rekha/rekha/ActiveEdges", name := "rightmost", desc := "(I)I" } : Jvm.MethodName) prog_2_method_10_code (3 : Nat) (Option.some Jvm.ClassFile.FieldType.int)).before args0 about1 = true := code_word (m := ⟨2, 4⟩) (meth := k2m4) (c := k2c4) (by decide +kernel) rfl rfl rfl (by decide +kernel)
def codes1 : List Jvm.Cond := [Jvm.Cond.code x code maxLocals ret, Jvm.Cond.code ({ cls := "com/example/rekha/rekha/ActiveEdges", name := "<init>", desc := "(I)V" } : Jvm.MethodName) prog_2_method_1_code (2 : Nat) (Option.none : Option Jvm.ClassFile.FieldType), Jvm.Cond.code ({ cls := "java/lang/Object", name := "<init>", desc := "()V" } : Jvm.MethodName) object_method_1_code (1 : Nat) (Option.none : Option Jvm.ClassFile.FieldType), Jvm.Cond.code ({ cls := "com/example/rekha/rekha/ActiveEdges", name := "insertBelow", desc := "(II)V" } : Jvm.MethodName) prog_2_method_7_code (4 : Nat) (Option.none : Option Jvm.ClassFile.FieldType), Jvm.Cond.code ({ cls := "com/example/rekha/rekha/ActiveEdges", name := "afterInsertion", desc := "(I)V" } : Jvm.MethodName) prog_2_method_12_code (7 : Nat) (Option.none : Option Jvm.ClassFile.FieldType), Jvm.Cond.code ({ cls := "com/example/rekha/rekha/ActiveEdgesNextPinLaw", name := "put", desc := "([IIII)V" } : Jvm.MethodName) method_3_code (4 : Nat) (Option.none : Option Jvm.ClassFile.FieldType), Jvm.Cond.code ({ cls := "com/example/rekha/rekha/ActiveEdges", name := "rotate", desc := "(IZ)V" } : Jvm.MethodName) prog_2_method_14_code (5 : Nat) (Option.none : Option Jvm.ClassFile.FieldType), Jvm.Cond.code ({ cls := "com/example/rekha/rekha/ActiveEdges", name := "transplant", desc := "(II)V" } : Jvm.MethodName) prog_2_method_11_code (4 : Nat) (Option.none : Option Jvm.ClassFile.FieldType), Jvm.Cond.code ({ cls := "com/example/rekha/rekha/ActiveEdges", name := "next", desc := "(I)I" } : Jvm.MethodName) prog_2_method_5_code (4 : Nat) (Option.some Jvm.ClassFile.FieldType.int), Jvm.Cond.code ({ cls := "com/example/rekha/rekha/ActiveEdges", name := "leftmost", desc := "(I)I" } : Jvm.MethodName) prog_2_method_9_code (3 : Nat) (Option.some Jvm.ClassFile.FieldType.int), Jvm.Cond.code ({ cls := "com/example/rekha/rekha/ActiveEdges", name := "rightmost", desc := "(I)I" } : Jvm.MethodName) prog_2_method_10_code (3 : Nat) (Option.some Jvm.ClassFile.FieldType.int)]
set_option maxRecDepth 65536 in
theorem codes_eq : words1.filter isCode = codes1 := rfl
theorem w_codes : ∀ c ∈ words1.filter isCode, c.before args0 about1 = true := by
  rw [codes_eq]
  intro c hc
  simp only [codes1, List.mem_cons, List.not_mem_nil, or_false] at hc
  rcases hc with rfl | rfl | rfl | rfl | rfl | rfl | rfl | rfl | rfl | rfl | rfl
  · exact w_c0
  · exact w_c1
  · exact w_c2
  · exact w_c3
  · exact w_c4
  · exact w_c5
  · exact w_c6
  · exact w_c7
  · exact w_c8
  · exact w_c9
  · exact w_c10
set_option maxRecDepth 65536 in
theorem w_t1 : (words1.take 24).all (fun c => isCode c || c.before args0 about1) = true := by decide +kernel
set_option maxRecDepth 65536 in
theorem w_t2 : ((words1.drop 24).take 24).all (fun c => isCode c || c.before args0 about1) = true := by decide +kernel
set_option maxRecDepth 65536 in
theorem w_t3 : ((words1.drop 24).drop 24).all (fun c => isCode c || c.before args0 about1) = true := by decide +kernel
theorem w_tables : (allAtoms (Jvm.Cond.code x code maxLocals ret :: tables_1)).before args0 about1 = true := by
  rw [allAtoms_all]
  show words1.all (fun c => c.before args0 about1) = true
  refine all_split ?_ w_codes
  rw [← List.take_append_drop 24 words1, List.all_append, w_t1, ← List.take_append_drop 24 (words1.drop 24), List.all_append, w_t2, w_t3]
  rfl
set_option maxRecDepth 65536 in
theorem w_case : (Jvm.Cond.and given_1 narrow_1).before args0 about1 = true := by decide +kernel
theorem w_applies : (headSpec (Jvm.Cond.code x code maxLocals ret :: tables_1) room_1).applies x e0.platform about1 = true :=
  (Spec.applies_iff w_frames).mpr ⟨w_running, w_runnable, w_alone, w_named, w_hears, w_ripe, w_room, w_tables⟩
theorem atStart : AtStart classFile x code maxLocals ret World_1 tables_1 room_1 Calls_1 rest_1 Pre_1 launch0 p0 e0 about1 theMethod args0 below0 :=
  ⟨lists_1, trivial, launch0.admits_env _ _ _, launch0.least_env, fairChoices_fair.cas, fairChoices_fair.clock, w_frames, w_args, w_heap, w_applies, trivial, trivial, w_case⟩
end start1
theorem witness_1 : WitnessClaimed_1 := ⟨start1.p0, start1.e0, start1.about1, start1.theMethod, start1.args0, start1.below0, start1.atStart⟩
end Jvm.Pilot.@@N@@
