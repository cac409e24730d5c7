import JvmDerived
import JvmDerived.Pilot.@@N@@Statement
import JvmDerived.Pilot.@@N@@Code
set_option linter.unusedVariables false
set_option linter.unusedSimpArgs false
namespace Jvm.Pilot.@@N@@
open Jvm Jvm.ClassFile Sem Op Lib Jvm.Free Jvm.Stand Jvm.LawKit Jvm.RoadKit Bundle Jvm.Pilot.@@N@@.Jvm.D
/-! OWN KIT 1: the fresh part of the heap: a list of (address, what its cell is) -/
abbrev Hp : Type := List (Addr × (Cell → Prop))
def Own (Z : State) (h : Heap) (M : Hp) : Prop := Ext Z.heap h ∧ (∀ (i : Nat) x, M[i]? = some x → Z.heap.size ≤ x.1 ∧ ∃ c : Cell, h[x.1]? = some c ∧ x.2 c) ∧ ∀ (i j : Nat) x y, M[i]? = some x → M[j]? = some y → x.1 = y.1 → i = j
theorem Own.ch {Z : State} {h h' : Heap} {M : Hp} {i : Nat} {a : Addr} {P P' : Cell → Prop} (O : Own Z h M) (hi : M[i]? = some (a, P)) (hs : h.size ≤ h'.size) (hk : ∀ (x : Addr) (c : Cell), h[x]? = some c → x ≠ a → h'[x]? = some c) (hc : ∃ c : Cell, h'[a]? = some c ∧ P' c) : Own Z h' (M.set i (a, P')) := by
  obtain ⟨o1, o2, o3⟩ := O
  have hil : i < M.length := (List.getElem?_eq_some_iff.mp hi).1
  have key : ∀ (j : Nat) x, (M.set i (a, P'))[j]? = some x → (j = i ∧ x = (a, P')) ∨ (j ≠ i ∧ M[j]? = some x) := by
    intro j x hx
    by_cases e : j = i
    · subst e
      rw [List.getElem?_set_self hil] at hx
      exact Or.inl ⟨rfl, (Option.some.inj hx).symm⟩
    · rw [List.getElem?_set_ne (Ne.symm e)] at hx
      exact Or.inr ⟨e, hx⟩
  refine ⟨⟨Nat.le_trans o1.1 hs, fun x c hx => hk x c (o1.2 x c hx) ?_⟩, fun j x hx => ?_, fun j j' x y hx hy e => ?_⟩
  · have h1 := (Array.getElem?_eq_some_iff.mp hx).1
    have h2 := (o2 i _ hi).1
    exact Nat.ne_of_lt (Nat.lt_of_lt_of_le h1 h2)
  · rcases key j x hx with ⟨rfl, rfl⟩ | ⟨ne, hx'⟩
    · exact ⟨(o2 j _ hi).1, hc⟩
    · obtain ⟨q1, c, q2, q3⟩ := o2 j x hx'
      exact ⟨q1, c, hk _ _ q2 (fun e => ne (o3 j i _ _ hx' hi e)), q3⟩
  · rcases key j x hx with ⟨rfl, rfl⟩ | ⟨ne, hx'⟩ <;> rcases key j' y hy with ⟨rfl, rfl⟩ | ⟨ne', hy'⟩
    · rfl
    · exact o3 _ _ _ _ hi hy' e
    · exact o3 _ _ _ _ hx' hi e
    · exact o3 _ _ _ _ hx' hy' e
theorem Own.upd {Z : State} {h h' : Heap} {M : Hp} {i : Nat} {a : Addr} {P P' : Cell → Prop} {sl : Nat} {v : Value} (O : Own Z h M) (hi : M[i]? = some (a, P)) (W : Wr h h' a sl v) (q : ∀ c : Cell, h[a]? = some c → P c → P' (c.setSlot sl v)) : Own Z h' (M.set i (a, P')) := by
  refine O.ch hi (Nat.le_of_eq W.size.symm) (fun x c hx ne => ?_) ?_
  · obtain ⟨c', e1, -, -, -, e5, -⟩ := wr_at W hx
    rw [e1, e5 ne]
  · obtain ⟨-, c, h1, h2⟩ := O.2.1 i _ hi
    obtain ⟨c', e1, -, -, -, -, -, e7⟩ := wr_at W h1
    exact ⟨c', e1, by rw [(e7 rfl).1]; exact q c h1 h2⟩
theorem Own.new {Z : State} {h h' : Heap} {M : Hp} {P : Cell → Prop} {c : Cell} (O : Own Z h M) (E : Ext h h') (hc : h'[h.size]? = some c) (q : P c) : Own Z h' ((h.size, P) :: M) := by
  obtain ⟨o1, o2, o3⟩ := O
  have lt : ∀ (j : Nat) x, M[j]? = some x → x.1 < h.size := fun j x hx => by
    obtain ⟨-, c, h1, -⟩ := o2 j x hx
    exact (Array.getElem?_eq_some_iff.mp h1).1
  refine ⟨⟨Nat.le_trans o1.1 E.1, fun x c hx => E.2 _ _ (o1.2 x c hx)⟩, fun j x hx => ?_, fun j j' x y hx hy e => ?_⟩
  · cases j with
    | zero => cases hx; exact ⟨o1.1, c, hc, q⟩
    | succ j => obtain ⟨q1, c, q2, q3⟩ := o2 j x hx; exact ⟨q1, c, E.2 _ _ q2, q3⟩
  · cases j <;> cases j'
    · rfl
    · cases hx; exact absurd e (Nat.ne_of_gt (lt _ _ hy))
    · cases hy; exact absurd e (Nat.ne_of_lt (lt _ _ hx))
    · exact congrArg _ (o3 _ _ _ _ hx hy e)
theorem Own.perm {Z : State} {h : Heap} {M M' : Hp} (O : Own Z h M) (p : M.Perm M') : Own Z h M' := by
  obtain ⟨o1, o2, o3⟩ := O
  have nd : (M.map Prod.fst).Nodup := by
    rw [List.nodup_iff_pairwise_ne, List.pairwise_iff_getElem]
    intro i j hi hj lt e
    simp only [List.length_map] at hi hj
    simp only [List.getElem_map] at e
    exact absurd (o3 i j _ _ (List.getElem?_eq_getElem hi) (List.getElem?_eq_getElem hj) e) (Nat.ne_of_lt lt)
  have nd' : (M'.map Prod.fst).Nodup := (p.map _).nodup_iff.mp nd
  refine ⟨o1, fun i x hx => ?_, fun i j x y hx hy e => ?_⟩
  · obtain ⟨j, hj⟩ := List.mem_iff_getElem?.mp (p.mem_iff.mpr (List.mem_of_getElem? hx))
    exact o2 j x hj
  · rw [List.nodup_iff_pairwise_ne, List.pairwise_iff_getElem] at nd'
    obtain ⟨hi, rfl⟩ := List.getElem?_eq_some_iff.mp hx
    obtain ⟨hj, rfl⟩ := List.getElem?_eq_some_iff.mp hy
    rcases Nat.lt_trichotomy i j with lt | rfl | lt
    · exact (nd' i j (by simpa using hi) (by simpa using hj) lt (by simpa using e)).elim
    · rfl
    · exact (nd' j i (by simpa using hj) (by simpa using hi) lt (by simpa using e.symm)).elim
theorem Own.ne {Z : State} {h : Heap} {M : Hp} {i j : Nat} {a b : Addr} {P P' : Cell → Prop} (O : Own Z h M) (hi : M[i]? = some (a, P)) (hj : M[j]? = some (b, P')) (ne : i ≠ j) : a ≠ b := fun e => ne (O.2.2 i j _ _ hi hj e)
/-! what a cell is: an object of the class C with these fields; an array of ints (bytes, booleans ..), an array of longs -/
abbrev Fd : Type := String × String × String × Value
def Apart (Z : State) (fs : List Fd) : Prop := ∀ (i j : Nat) f g, fs[i]? = some f → fs[j]? = some g → Jvm.RoadKit.slotOf Z f.1 f.2.1 f.2.2.1 = Jvm.RoadKit.slotOf Z g.1 g.2.1 g.2.2.1 → i = j
def Obj (Z : State) (C : String) (fs : List Fd) (c : Cell) : Prop := (∀ (h : Heap) (a : Addr), h[a]? = some c → Exa Z h a C ∧ ∀ (i : Nat) f, fs[i]? = some f → Fld Z h a f.1 f.2.1 f.2.2.1 f.2.2.2) ∧ Apart Z fs
def ArI (Z : State) (ty : FieldType) (vs : List Int32) (c : Cell) : Prop := Z.isArrayOf c ty ∧ c.vm ≠ .unknown ∧ c.slots = (vs.map Value.int).toArray ∧ vs.length < 2 ^ 31 ∧ ∀ x ∈ vs, fits ty (.int x) = true
def ArL (Z : State) (vs : List Int64) (c : Cell) : Prop := Z.isArrayOf c .long ∧ c.vm ≠ .unknown ∧ c.slots = (vs.map Value.long).toArray ∧ vs.length < 2 ^ 31
theorem exa_at_cell {Z : State} {h h' : Heap} {a a' : Addr} {C : String} {c : Cell} (E : Exa Z h a C) (hc : h[a]? = some c) (hc' : h'[a']? = some c) : Exa Z h' a' C := by
  obtain ⟨c1, k, h1, r⟩ := E
  cases h1.symm.trans hc
  exact ⟨_, k, hc', r⟩
theorem fld_at_cell {Z : State} {h h' : Heap} {a a' : Addr} {C n d : String} {v : Value} {c : Cell} (E : Fld Z h a C n d v) (hc : h[a]? = some c) (hc' : h'[a']? = some c) : Fld Z h' a' C n d v := by
  obtain ⟨c1, cf, k, i, f, h1, r⟩ := E
  cases h1.symm.trans hc
  exact ⟨_, cf, k, i, f, hc', r⟩
theorem Obj.put {Z : State} {C O n d : String} {fs : List Fd} {c : Cell} {j : Nat} {v w : Value} (B : Obj Z C fs c) (hj : fs[j]? = some (O, n, d, w)) {h h' : Heap} {a : Addr} (hc : h[a]? = some c) (W : Wr h h' a (Jvm.RoadKit.slotOf Z O n d) v) : Obj Z C (fs.set j (O, n, d, v)) (c.setSlot (Jvm.RoadKit.slotOf Z O n d) v) := by
  obtain ⟨b1, b2⟩ := B
  have hl : j < fs.length := (List.getElem?_eq_some_iff.mp hj).1
  have key : ∀ (i : Nat) x, (fs.set j (O, n, d, v))[i]? = some x → (i = j ∧ x = (O, n, d, v)) ∨ (i ≠ j ∧ fs[i]? = some x) := by
    intro i x hx
    by_cases e : i = j
    · subst e; rw [List.getElem?_set_self hl] at hx; exact Or.inl ⟨rfl, (Option.some.inj hx).symm⟩
    · rw [List.getElem?_set_ne (Ne.symm e)] at hx; exact Or.inr ⟨e, hx⟩
  have hnew : h'[a]? = some (c.setSlot (Jvm.RoadKit.slotOf Z O n d) v) := by
    obtain ⟨c', e1, -, -, -, -, -, e7⟩ := wr_at W hc
    rw [e1, (e7 rfl).1]
  refine ⟨fun h2 a2 h2c => ⟨exa_at_cell ((b1 h a hc).1.wr W) hnew h2c, fun i f hf => ?_⟩, fun i i' f g hf hg e => ?_⟩
  · rcases key i f hf with ⟨rfl, rfl⟩ | ⟨ne, hf'⟩
    · exact fld_at_cell (((b1 h a hc).2 i _ hj).same W) hnew h2c
    · exact fld_at_cell (((b1 h a hc).2 i _ hf').other W (Or.inr fun e => ne (b2 i j _ _ hf' hj e))) hnew h2c
  · rcases key i f hf with ⟨rfl, rfl⟩ | ⟨ne, hf'⟩ <;> rcases key i' g hg with ⟨rfl, rfl⟩ | ⟨ne', hg'⟩
    · rfl
    · exact b2 _ _ _ _ hj hg' e
    · exact b2 _ _ _ _ hf' hj e
    · exact b2 _ _ _ _ hf' hg' e
theorem ArI.arr {Z : State} {ty : FieldType} {vs : List Int32} {c : Cell} {h : Heap} {a : Addr} (B : ArI Z ty vs c) (hc : h[a]? = some c) : Arr Z h a c ty := ⟨hc, B.1, B.2.1⟩
theorem ArL.arr {Z : State} {vs : List Int64} {c : Cell} {h : Heap} {a : Addr} (B : ArL Z vs c) (hc : h[a]? = some c) : Arr Z h a c .long := ⟨hc, B.1, B.2.1⟩
theorem ArI.size {Z : State} {ty : FieldType} {vs : List Int32} {c : Cell} (B : ArI Z ty vs c) : c.slots.size = vs.length := by rw [B.2.2.1]; simp
theorem ArL.size {Z : State} {vs : List Int64} {c : Cell} (B : ArL Z vs c) : c.slots.size = vs.length := by rw [B.2.2.1]; simp
theorem ArI.put {Z : State} {ty : FieldType} {vs : List Int32} {c : Cell} (B : ArI Z ty vs c) (j : Nat) {x : Int32} (hx : fits ty (.int x) = true) : ArI Z ty (vs.set j x) (c.setSlot j (.int x)) := by
  refine ⟨B.1, B.2.1, ?_, by simpa using B.2.2.2.1, fun y hy => ?_⟩
  · show c.slots.setIfInBounds j (.int x) = _
    rw [B.2.2.1]; apply Array.ext'; simp [List.map_set]
  · rcases List.mem_or_eq_of_mem_set hy with h | rfl
    · exact B.2.2.2.2 y h
    · exact hx
theorem ArL.put {Z : State} {vs : List Int64} {c : Cell} (B : ArL Z vs c) (j : Nat) {x : Int64} : ArL Z (vs.set j x) (c.setSlot j (.long x)) := by
  refine ⟨B.1, B.2.1, ?_, by simpa using B.2.2.2⟩
  show c.slots.setIfInBounds j (.long x) = _
  rw [B.2.2.1]; apply Array.ext'; simp [List.map_set]
/-! OWN KIT 2: where a run stands, and how it ends -/
abbrev Cx : Type := Program × Launch × Env × Room × State × MethodId × Array Value × List Frame × Method × Code × (Option Value → Hp → Prop)
def Wk (Z : State) : Cx → State → Nat → Nat → Hp → Prop
  | (p, l, e, R, s, m, args, below, meth, c, _), T, cn, sn, M => ∃ locs, Stand p l e R s m args below meth c T locs cn sn ∧ Fr Z.heap.size locs ∧ Own Z T.heap M
def Ends (Z : State) : Cx → State → Nat → Array Slot → List Value → Prop
  | (p, l, e, R, s, m, args, below, meth, c, Q), T, pc, Ls, st => ∃ t o, Steps p.tables e below (T.setTop (mkF m pc Ls st)) t ∧ t.status = .running ∧ Ended t below o ∧ ∃ v L, o = .returned v ∧ (Fr Z.heap.size L ∧ ∃ M, Q v M ∧ Own Z t.heap M) ∧ FrameEnd s o t L R.cells R.slots
/-- from this frame, over such a heap, the run ends as Q says -/
def Go (Z : State) (k : Cx) (cn sn : Nat) (M : Hp) (pc : Nat) (Ls : Array Slot) (st : List Value) : Prop := ∀ T, Wk Z k T cn sn M → Ends Z k T pc Ls st
def Tb (Z : State) : Prop := ∃ a0, ∀ d ∈ tables_1, d.before a0 Z = true
def Ok (Z : State) (k : Cx) (R : Room) (Q : Option Value → Hp → Prop) (y : MethodName) (b : ByteArray) (ml : Nat) (rt : Option FieldType) : Prop :=
  match k with
  | (p, l, e, R', s, m, args, below, meth, c, Q') => p.tables.exec = Jvm.exec ∧ Z.Warmed39 s.vm ∧ c.code = b ∧ c.maxLocals = ml ∧ s.vm.findClass y.cls = some m.cls ∧ meth.name = y.name ∧ meth.sig.returnType = rt ∧ meth.locks = false ∧ Tb Z ∧ R' = R ∧ Q' = Q
theorem Ok.tb {Z : State} {k : Cx} {R : Room} {Q : Option Value → Hp → Prop} {y : MethodName} {b : ByteArray} {ml : Nat} {rt : Option FieldType} (H : Ok Z k R Q y b ml rt) : Tb Z := by
  obtain ⟨p, l, e, R', s, m, args, below, meth, c, Q'⟩ := k
  exact H.2.2.2.2.2.2.2.2.1
section Kit
variable {ty : FieldType} {Z : State} {k : Cx} {R : Room} {Q : Option Value → Hp → Prop} {y : MethodName} {b : ByteArray} {ml : Nat} {rt : Option FieldType} {cn sn : Nat} {M : Hp} {pc pc' : Nat} {Ls : Array Slot} {st : List Value}
theorem mem {i : Nat} {d : Jvm.Cond} (h : tables_1[i]? = some d) : d ∈ tables_1 := List.mem_of_getElem? h
theorem Go.more {cn' sn' : Nat} (hc : cn ≤ cn') (hs : sn ≤ sn') (g : Go Z k cn' sn' M pc Ls st) : Go Z k cn sn M pc Ls st := by
  obtain ⟨p, l, e, R, s, m, args, below, meth, c, Q⟩ := k
  intro T w
  obtain ⟨locs, X, F, O⟩ := w
  exact g T ⟨locs, X.more hc hs, F, O⟩
theorem Go.perm {M' : Hp} (p : M.Perm M') (g : Go Z k cn sn M' pc Ls st) : Go Z k cn sn M pc Ls st := by
  obtain ⟨p', l, e, R, s, m, args, below, meth, c, Q⟩ := k
  intro T w
  obtain ⟨locs, X, F, O⟩ := w
  exact g T ⟨locs, X, F, O.perm p⟩
theorem Go.fact {φ : Prop} (f : ∀ h, Own Z h M → φ) (g : φ → Go Z k cn sn M pc Ls st) : Go Z k cn sn M pc Ls st := by
  obtain ⟨p', l, e, R, s, m, args, below, meth, c, Q⟩ := k
  intro T w
  have w' := w
  obtain ⟨locs, X, F, O⟩ := w
  exact g (f _ O) T w'
theorem Go.cast {pc2 : Nat} {Ls2 : Array Slot} {st2 : List Value} {M2 : Hp} (h1 : pc = pc2) (h2 : Ls = Ls2) (h3 : st = st2) (h4 : M = M2) (g : Go Z k cn sn M2 pc2 Ls2 st2) : Go Z k cn sn M pc Ls st := by
  subst h1 h2 h3 h4; exact g
theorem s_iloadn (H : Ok Z k R Q y b ml rt) {i : Fin 4} {z : Int32} (hd : decode b pc = .ok (.iload_n i, 1)) (hl : Ls[i.val]? = some (.val (.int z))) (hp : pc + 1 = pc') (g : Go Z k cn sn M pc' Ls (.int z :: st)) : Go Z k cn sn M pc Ls (st) := by
  obtain ⟨p, l, e, R', s, m, args, below, meth, c, Q'⟩ := k
  obtain ⟨hx, hZ, hby, -⟩ := H
  subst hp
  intro T w
  have w' := w
  obtain ⟨locs, X, F, O⟩ := w
  obtain ⟨t, o, hs, r⟩ := g T w'
  exact ⟨t, o, XS.iloadN X.here hx rfl (hb hby hd) hl hs, r⟩
theorem s_iload (H : Ok Z k R Q y b ml rt) {i : Nat} {z : Int32} (hd : decode b pc = .ok (.iload i, 2)) (hl : Ls[i]? = some (.val (.int z))) (hp : pc + 2 = pc') (g : Go Z k cn sn M pc' Ls (.int z :: st)) : Go Z k cn sn M pc Ls (st) := by
  obtain ⟨p, l, e, R', s, m, args, below, meth, c, Q'⟩ := k
  obtain ⟨hx, hZ, hby, -⟩ := H
  subst hp
  intro T w
  have w' := w
  obtain ⟨locs, X, F, O⟩ := w
  obtain ⟨t, o, hs, r⟩ := g T w'
  exact ⟨t, o, XS.iload X.here hx rfl (hb hby hd) hl hs, r⟩
theorem s_istoren (H : Ok Z k R Q y b ml rt) {i : Fin 4} {x : Int32} {L' : Int32 → Array Slot} (hd : decode b pc = .ok (.istore_n i, 1)) (hl : ∀ z, storeLocals Ls i.val (.int z) = some (L' z)) (hp : pc + 1 = pc') (g : ∀ z, z = x → Go Z k cn sn M pc' (L' z) st) : Go Z k cn sn M pc Ls (.int x :: st) := by
  obtain ⟨p, l, e, R', s, m, args, below, meth, c, Q'⟩ := k
  obtain ⟨hx, hZ, hby, -⟩ := H
  subst hp
  intro T w
  have w' := w
  obtain ⟨locs, X, F, O⟩ := w
  obtain ⟨t, o, hs, r⟩ := g x rfl T w'
  exact ⟨t, o, XS.istoreN X.here hx rfl (hb hby hd) rfl (hl x) hs, r⟩
theorem s_istore (H : Ok Z k R Q y b ml rt) {i : Nat} {x : Int32} {L' : Int32 → Array Slot} (hd : decode b pc = .ok (.istore i, 2)) (hl : ∀ z, storeLocals Ls i (.int z) = some (L' z)) (hp : pc + 2 = pc') (g : ∀ z, z = x → Go Z k cn sn M pc' (L' z) st) : Go Z k cn sn M pc Ls (.int x :: st) := by
  obtain ⟨p, l, e, R', s, m, args, below, meth, c, Q'⟩ := k
  obtain ⟨hx, hZ, hby, -⟩ := H
  subst hp
  intro T w
  have w' := w
  obtain ⟨locs, X, F, O⟩ := w
  obtain ⟨t, o, hs, r⟩ := g x rfl T w'
  exact ⟨t, o, XS.istore X.here hx rfl (hb hby hd) rfl (hl x) hs, r⟩
theorem s_lloadn (H : Ok Z k R Q y b ml rt) {i : Fin 4} {z : Int64} (hd : decode b pc = .ok (.lload_n i, 1)) (hl : Ls[i.val]? = some (.val (.long z))) (hp : pc + 1 = pc') (g : Go Z k cn sn M pc' Ls (.long z :: st)) : Go Z k cn sn M pc Ls (st) := by
  obtain ⟨p, l, e, R', s, m, args, below, meth, c, Q'⟩ := k
  obtain ⟨hx, hZ, hby, -⟩ := H
  subst hp
  intro T w
  have w' := w
  obtain ⟨locs, X, F, O⟩ := w
  obtain ⟨t, o, hs, r⟩ := g T w'
  exact ⟨t, o, XS.lloadN X.here hx rfl (hb hby hd) hl hs, r⟩
theorem s_lload (H : Ok Z k R Q y b ml rt) {i : Nat} {z : Int64} (hd : decode b pc = .ok (.lload i, 2)) (hl : Ls[i]? = some (.val (.long z))) (hp : pc + 2 = pc') (g : Go Z k cn sn M pc' Ls (.long z :: st)) : Go Z k cn sn M pc Ls (st) := by
  obtain ⟨p, l, e, R', s, m, args, below, meth, c, Q'⟩ := k
  obtain ⟨hx, hZ, hby, -⟩ := H
  subst hp
  intro T w
  have w' := w
  obtain ⟨locs, X, F, O⟩ := w
  obtain ⟨t, o, hs, r⟩ := g T w'
  exact ⟨t, o, XS.lload X.here hx rfl (hb hby hd) hl hs, r⟩
theorem s_lstoren (H : Ok Z k R Q y b ml rt) {i : Fin 4} {x : Int64} {L' : Int64 → Array Slot} (hd : decode b pc = .ok (.lstore_n i, 1)) (hl : ∀ z, storeLocals Ls i.val (.long z) = some (L' z)) (hp : pc + 1 = pc') (g : ∀ z, z = x → Go Z k cn sn M pc' (L' z) st) : Go Z k cn sn M pc Ls (.long x :: st) := by
  obtain ⟨p, l, e, R', s, m, args, below, meth, c, Q'⟩ := k
  obtain ⟨hx, hZ, hby, -⟩ := H
  subst hp
  intro T w
  have w' := w
  obtain ⟨locs, X, F, O⟩ := w
  obtain ⟨t, o, hs, r⟩ := g x rfl T w'
  exact ⟨t, o, XS.lstoreN X.here hx rfl (hb hby hd) rfl (hl x) hs, r⟩
theorem s_lstore (H : Ok Z k R Q y b ml rt) {i : Nat} {x : Int64} {L' : Int64 → Array Slot} (hd : decode b pc = .ok (.lstore i, 2)) (hl : ∀ z, storeLocals Ls i (.long z) = some (L' z)) (hp : pc + 2 = pc') (g : ∀ z, z = x → Go Z k cn sn M pc' (L' z) st) : Go Z k cn sn M pc Ls (.long x :: st) := by
  obtain ⟨p, l, e, R', s, m, args, below, meth, c, Q'⟩ := k
  obtain ⟨hx, hZ, hby, -⟩ := H
  subst hp
  intro T w
  have w' := w
  obtain ⟨locs, X, F, O⟩ := w
  obtain ⟨t, o, hs, r⟩ := g x rfl T w'
  exact ⟨t, o, XS.lstore X.here hx rfl (hb hby hd) rfl (hl x) hs, r⟩
theorem s_aloadn (H : Ok Z k R Q y b ml rt) {i : Fin 4} {v : Value} (hd : decode b pc = .ok (.aload_n i, 1)) (hl : Ls[i.val]? = some (.val v)) (hv : v.isRef = true) (hp : pc + 1 = pc') (g : Go Z k cn sn M pc' Ls (v :: st)) : Go Z k cn sn M pc Ls (st) := by
  obtain ⟨p, l, e, R', s, m, args, below, meth, c, Q'⟩ := k
  obtain ⟨hx, hZ, hby, -⟩ := H
  subst hp
  intro T w
  have w' := w
  obtain ⟨locs, X, F, O⟩ := w
  obtain ⟨t, o, hs, r⟩ := g T w'
  exact ⟨t, o, XS.aloadN X.here hx rfl (hb hby hd) hl hv hs, r⟩
theorem s_aload (H : Ok Z k R Q y b ml rt) {i : Nat} {v : Value} (hd : decode b pc = .ok (.aload i, 2)) (hl : Ls[i]? = some (.val v)) (hv : v.isRef = true) (hp : pc + 2 = pc') (g : Go Z k cn sn M pc' Ls (v :: st)) : Go Z k cn sn M pc Ls (st) := by
  obtain ⟨p, l, e, R', s, m, args, below, meth, c, Q'⟩ := k
  obtain ⟨hx, hZ, hby, -⟩ := H
  subst hp
  intro T w
  have w' := w
  obtain ⟨locs, X, F, O⟩ := w
  obtain ⟨t, o, hs, r⟩ := g T w'
  exact ⟨t, o, XS.aload X.here hx rfl (hb hby hd) hl hv hs, r⟩
theorem s_astoren (H : Ok Z k R Q y b ml rt) {i : Fin 4} {v : Value} {L' : Array Slot} (hd : decode b pc = .ok (.astore_n i, 1)) (hv : v.isRef = true) (hl : storeLocals Ls i.val v = some L') (hp : pc + 1 = pc') (g : Go Z k cn sn M pc' L' (st)) : Go Z k cn sn M pc Ls (v :: st) := by
  obtain ⟨p, l, e, R', s, m, args, below, meth, c, Q'⟩ := k
  obtain ⟨hx, hZ, hby, -⟩ := H
  subst hp
  intro T w
  have w' := w
  obtain ⟨locs, X, F, O⟩ := w
  obtain ⟨t, o, hs, r⟩ := g T w'
  exact ⟨t, o, XS.astoreN X.here hx rfl (hb hby hd) rfl hv hl hs, r⟩
theorem s_astore (H : Ok Z k R Q y b ml rt) {i : Nat} {v : Value} {L' : Array Slot} (hd : decode b pc = .ok (.astore i, 2)) (hv : v.isRef = true) (hl : storeLocals Ls i v = some L') (hp : pc + 2 = pc') (g : Go Z k cn sn M pc' L' (st)) : Go Z k cn sn M pc Ls (v :: st) := by
  obtain ⟨p, l, e, R', s, m, args, below, meth, c, Q'⟩ := k
  obtain ⟨hx, hZ, hby, -⟩ := H
  subst hp
  intro T w
  have w' := w
  obtain ⟨locs, X, F, O⟩ := w
  obtain ⟨t, o, hs, r⟩ := g T w'
  exact ⟨t, o, XS.astore X.here hx rfl (hb hby hd) rfl hv hl hs, r⟩
theorem s_iconst (H : Ok Z k R Q y b ml rt) {i : Int} {z : Int32} (hd : decode b pc = .ok (.iconst i, 1)) (hz : z = Int32.ofInt i) (hp : pc + 1 = pc') (g : Go Z k cn sn M pc' Ls (.int z :: st)) : Go Z k cn sn M pc Ls (st) := by
  obtain ⟨p, l, e, R', s, m, args, below, meth, c, Q'⟩ := k
  obtain ⟨hx, hZ, hby, -⟩ := H
  subst hp
  intro T w
  have w' := w
  obtain ⟨locs, X, F, O⟩ := w
  obtain ⟨t, o, hs, r⟩ := g T w'
  exact ⟨t, o, XS.iconst X.here hx rfl (hb hby hd) (hz ▸ hs), r⟩
theorem s_bipush (H : Ok Z k R Q y b ml rt) {i : Int} {z : Int32} (hd : decode b pc = .ok (.bipush i, 2)) (hz : z = (Int8.ofInt i).toInt32) (hp : pc + 2 = pc') (g : Go Z k cn sn M pc' Ls (.int z :: st)) : Go Z k cn sn M pc Ls (st) := by
  obtain ⟨p, l, e, R', s, m, args, below, meth, c, Q'⟩ := k
  obtain ⟨hx, hZ, hby, -⟩ := H
  subst hp
  intro T w
  have w' := w
  obtain ⟨locs, X, F, O⟩ := w
  obtain ⟨t, o, hs, r⟩ := g T w'
  exact ⟨t, o, XS.bipush X.here hx rfl (hb hby hd) (hz ▸ hs), r⟩
theorem s_sipush (H : Ok Z k R Q y b ml rt) {i : Int} {z : Int32} (hd : decode b pc = .ok (.sipush i, 3)) (hz : z = (Int16.ofInt i).toInt32) (hp : pc + 3 = pc') (g : Go Z k cn sn M pc' Ls (.int z :: st)) : Go Z k cn sn M pc Ls (st) := by
  obtain ⟨p, l, e, R', s, m, args, below, meth, c, Q'⟩ := k
  obtain ⟨hx, hZ, hby, -⟩ := H
  subst hp
  intro T w
  have w' := w
  obtain ⟨locs, X, F, O⟩ := w
  obtain ⟨t, o, hs, r⟩ := g T w'
  exact ⟨t, o, XS.sipush X.here hx rfl (hb hby hd) (hz ▸ hs), r⟩
theorem s_lconst (H : Ok Z k R Q y b ml rt) {i : Fin 2} {z : Int64} (hd : decode b pc = .ok (.lconst i, 1)) (hz : z = Int64.ofNat i) (hp : pc + 1 = pc') (g : Go Z k cn sn M pc' Ls (.long z :: st)) : Go Z k cn sn M pc Ls (st) := by
  obtain ⟨p, l, e, R', s, m, args, below, meth, c, Q'⟩ := k
  obtain ⟨hx, hZ, hby, -⟩ := H
  subst hp
  intro T w
  have w' := w
  obtain ⟨locs, X, F, O⟩ := w
  obtain ⟨t, o, hs, r⟩ := g T w'
  exact ⟨t, o, XS.lconst X.here hx rfl (hb hby hd) (hz ▸ hs), r⟩
theorem s_anull (H : Ok Z k R Q y b ml rt) (hd : decode b pc = .ok (.aconst_null, 1)) (hp : pc + 1 = pc') (g : Go Z k cn sn M pc' Ls (.null :: st)) : Go Z k cn sn M pc Ls (st) := by
  obtain ⟨p, l, e, R', s, m, args, below, meth, c, Q'⟩ := k
  obtain ⟨hx, hZ, hby, -⟩ := H
  subst hp
  intro T w
  have w' := w
  obtain ⟨locs, X, F, O⟩ := w
  obtain ⟨t, o, hs, r⟩ := g T w'
  exact ⟨t, o, XS.aconstNull X.here hx rfl (hb hby hd) hs, r⟩
theorem s_iadd (H : Ok Z k R Q y b ml rt) {x u : Int32} (hd : decode b pc = .ok (.iadd, 1)) (hp : pc + 1 = pc') (g : Go Z k cn sn M pc' Ls (.int (x + u) :: st)) : Go Z k cn sn M pc Ls (.int u :: .int x :: st) := by
  obtain ⟨p, l, e, R', s, m, args, below, meth, c, Q'⟩ := k
  obtain ⟨hx, hZ, hby, -⟩ := H
  subst hp
  intro T w
  have w' := w
  obtain ⟨locs, X, F, O⟩ := w
  obtain ⟨t, o, hs, r⟩ := g T w'
  exact ⟨t, o, XS.iadd X.here hx rfl (hb hby hd) rfl hs, r⟩
theorem s_isub (H : Ok Z k R Q y b ml rt) {x u : Int32} (hd : decode b pc = .ok (.isub, 1)) (hp : pc + 1 = pc') (g : Go Z k cn sn M pc' Ls (.int (x - u) :: st)) : Go Z k cn sn M pc Ls (.int u :: .int x :: st) := by
  obtain ⟨p, l, e, R', s, m, args, below, meth, c, Q'⟩ := k
  obtain ⟨hx, hZ, hby, -⟩ := H
  subst hp
  intro T w
  have w' := w
  obtain ⟨locs, X, F, O⟩ := w
  obtain ⟨t, o, hs, r⟩ := g T w'
  exact ⟨t, o, XS.isub X.here hx rfl (hb hby hd) rfl hs, r⟩
theorem s_imul (H : Ok Z k R Q y b ml rt) {x u : Int32} (hd : decode b pc = .ok (.imul, 1)) (hp : pc + 1 = pc') (g : Go Z k cn sn M pc' Ls (.int (x * u) :: st)) : Go Z k cn sn M pc Ls (.int u :: .int x :: st) := by
  obtain ⟨p, l, e, R', s, m, args, below, meth, c, Q'⟩ := k
  obtain ⟨hx, hZ, hby, -⟩ := H
  subst hp
  intro T w
  have w' := w
  obtain ⟨locs, X, F, O⟩ := w
  obtain ⟨t, o, hs, r⟩ := g T w'
  exact ⟨t, o, XS.imul X.here hx rfl (hb hby hd) rfl hs, r⟩
theorem s_iand (H : Ok Z k R Q y b ml rt) {x u : Int32} (hd : decode b pc = .ok (.iand, 1)) (hp : pc + 1 = pc') (g : Go Z k cn sn M pc' Ls (.int (x &&& u) :: st)) : Go Z k cn sn M pc Ls (.int u :: .int x :: st) := by
  obtain ⟨p, l, e, R', s, m, args, below, meth, c, Q'⟩ := k
  obtain ⟨hx, hZ, hby, -⟩ := H
  subst hp
  intro T w
  have w' := w
  obtain ⟨locs, X, F, O⟩ := w
  obtain ⟨t, o, hs, r⟩ := g T w'
  exact ⟨t, o, XS.iand X.here hx rfl (hb hby hd) rfl hs, r⟩
theorem s_ior (H : Ok Z k R Q y b ml rt) {x u : Int32} (hd : decode b pc = .ok (.ior, 1)) (hp : pc + 1 = pc') (g : Go Z k cn sn M pc' Ls (.int (x ||| u) :: st)) : Go Z k cn sn M pc Ls (.int u :: .int x :: st) := by
  obtain ⟨p, l, e, R', s, m, args, below, meth, c, Q'⟩ := k
  obtain ⟨hx, hZ, hby, -⟩ := H
  subst hp
  intro T w
  have w' := w
  obtain ⟨locs, X, F, O⟩ := w
  obtain ⟨t, o, hs, r⟩ := g T w'
  exact ⟨t, o, XS.ior X.here hx rfl (hb hby hd) rfl hs, r⟩
theorem s_ixor (H : Ok Z k R Q y b ml rt) {x u : Int32} (hd : decode b pc = .ok (.ixor, 1)) (hp : pc + 1 = pc') (g : Go Z k cn sn M pc' Ls (.int (x ^^^ u) :: st)) : Go Z k cn sn M pc Ls (.int u :: .int x :: st) := by
  obtain ⟨p, l, e, R', s, m, args, below, meth, c, Q'⟩ := k
  obtain ⟨hx, hZ, hby, -⟩ := H
  subst hp
  intro T w
  have w' := w
  obtain ⟨locs, X, F, O⟩ := w
  obtain ⟨t, o, hs, r⟩ := g T w'
  exact ⟨t, o, XS.ixor X.here hx rfl (hb hby hd) rfl hs, r⟩
theorem s_idiv (H : Ok Z k R Q y b ml rt) {x u : Int32} (hd : decode b pc = .ok (.idiv, 1)) (hu : u ≠ 0) (hp : pc + 1 = pc') (g : Go Z k cn sn M pc' Ls (.int (x / u) :: st)) : Go Z k cn sn M pc Ls (.int u :: .int x :: st) := by
  obtain ⟨p, l, e, R', s, m, args, below, meth, c, Q'⟩ := k
  obtain ⟨hx, hZ, hby, -⟩ := H
  subst hp
  intro T w
  have w' := w
  obtain ⟨locs, X, F, O⟩ := w
  obtain ⟨t, o, hs, r⟩ := g T w'
  exact ⟨t, o, XS.idiv X.here hx rfl (hb hby hd) rfl hu hs, r⟩
theorem s_ineg (H : Ok Z k R Q y b ml rt) {x : Int32} (hd : decode b pc = .ok (.ineg, 1)) (hp : pc + 1 = pc') (g : Go Z k cn sn M pc' Ls (.int (-x) :: st)) : Go Z k cn sn M pc Ls (.int x :: st) := by
  obtain ⟨p, l, e, R', s, m, args, below, meth, c, Q'⟩ := k
  obtain ⟨hx, hZ, hby, -⟩ := H
  subst hp
  intro T w
  have w' := w
  obtain ⟨locs, X, F, O⟩ := w
  obtain ⟨t, o, hs, r⟩ := g T w'
  exact ⟨t, o, XS.ineg X.here hx rfl (hb hby hd) rfl hs, r⟩
theorem s_ladd (H : Ok Z k R Q y b ml rt) {x u : Int64} (hd : decode b pc = .ok (.ladd, 1)) (hp : pc + 1 = pc') (g : Go Z k cn sn M pc' Ls (.long (x + u) :: st)) : Go Z k cn sn M pc Ls (.long u :: .long x :: st) := by
  obtain ⟨p, l, e, R', s, m, args, below, meth, c, Q'⟩ := k
  obtain ⟨hx, hZ, hby, -⟩ := H
  subst hp
  intro T w
  have w' := w
  obtain ⟨locs, X, F, O⟩ := w
  obtain ⟨t, o, hs, r⟩ := g T w'
  exact ⟨t, o, XS.ladd X.here hx rfl (hb hby hd) rfl hs, r⟩
theorem s_lsub (H : Ok Z k R Q y b ml rt) {x u : Int64} (hd : decode b pc = .ok (.lsub, 1)) (hp : pc + 1 = pc') (g : Go Z k cn sn M pc' Ls (.long (x - u) :: st)) : Go Z k cn sn M pc Ls (.long u :: .long x :: st) := by
  obtain ⟨p, l, e, R', s, m, args, below, meth, c, Q'⟩ := k
  obtain ⟨hx, hZ, hby, -⟩ := H
  subst hp
  intro T w
  have w' := w
  obtain ⟨locs, X, F, O⟩ := w
  obtain ⟨t, o, hs, r⟩ := g T w'
  exact ⟨t, o, XS.lsub X.here hx rfl (hb hby hd) rfl hs, r⟩
theorem s_lmul (H : Ok Z k R Q y b ml rt) {x u : Int64} (hd : decode b pc = .ok (.lmul, 1)) (hp : pc + 1 = pc') (g : Go Z k cn sn M pc' Ls (.long (x * u) :: st)) : Go Z k cn sn M pc Ls (.long u :: .long x :: st) := by
  obtain ⟨p, l, e, R', s, m, args, below, meth, c, Q'⟩ := k
  obtain ⟨hx, hZ, hby, -⟩ := H
  subst hp
  intro T w
  have w' := w
  obtain ⟨locs, X, F, O⟩ := w
  obtain ⟨t, o, hs, r⟩ := g T w'
  exact ⟨t, o, XS.lmul X.here hx rfl (hb hby hd) rfl hs, r⟩
theorem s_land (H : Ok Z k R Q y b ml rt) {x u : Int64} (hd : decode b pc = .ok (.land, 1)) (hp : pc + 1 = pc') (g : Go Z k cn sn M pc' Ls (.long (x &&& u) :: st)) : Go Z k cn sn M pc Ls (.long u :: .long x :: st) := by
  obtain ⟨p, l, e, R', s, m, args, below, meth, c, Q'⟩ := k
  obtain ⟨hx, hZ, hby, -⟩ := H
  subst hp
  intro T w
  have w' := w
  obtain ⟨locs, X, F, O⟩ := w
  obtain ⟨t, o, hs, r⟩ := g T w'
  exact ⟨t, o, XS.land X.here hx rfl (hb hby hd) rfl hs, r⟩
theorem s_lor (H : Ok Z k R Q y b ml rt) {x u : Int64} (hd : decode b pc = .ok (.lor, 1)) (hp : pc + 1 = pc') (g : Go Z k cn sn M pc' Ls (.long (x ||| u) :: st)) : Go Z k cn sn M pc Ls (.long u :: .long x :: st) := by
  obtain ⟨p, l, e, R', s, m, args, below, meth, c, Q'⟩ := k
  obtain ⟨hx, hZ, hby, -⟩ := H
  subst hp
  intro T w
  have w' := w
  obtain ⟨locs, X, F, O⟩ := w
  obtain ⟨t, o, hs, r⟩ := g T w'
  exact ⟨t, o, XS.lor X.here hx rfl (hb hby hd) rfl hs, r⟩
theorem s_lxor (H : Ok Z k R Q y b ml rt) {x u : Int64} (hd : decode b pc = .ok (.lxor, 1)) (hp : pc + 1 = pc') (g : Go Z k cn sn M pc' Ls (.long (x ^^^ u) :: st)) : Go Z k cn sn M pc Ls (.long u :: .long x :: st) := by
  obtain ⟨p, l, e, R', s, m, args, below, meth, c, Q'⟩ := k
  obtain ⟨hx, hZ, hby, -⟩ := H
  subst hp
  intro T w
  have w' := w
  obtain ⟨locs, X, F, O⟩ := w
  obtain ⟨t, o, hs, r⟩ := g T w'
  exact ⟨t, o, XS.lxor X.here hx rfl (hb hby hd) rfl hs, r⟩
theorem s_ldiv (H : Ok Z k R Q y b ml rt) {x u : Int64} (hd : decode b pc = .ok (.ldiv, 1)) (hu : u ≠ 0) (hp : pc + 1 = pc') (g : Go Z k cn sn M pc' Ls (.long (x / u) :: st)) : Go Z k cn sn M pc Ls (.long u :: .long x :: st) := by
  obtain ⟨p, l, e, R', s, m, args, below, meth, c, Q'⟩ := k
  obtain ⟨hx, hZ, hby, -⟩ := H
  subst hp
  intro T w
  have w' := w
  obtain ⟨locs, X, F, O⟩ := w
  obtain ⟨t, o, hs, r⟩ := g T w'
  exact ⟨t, o, XS.ldiv X.here hx rfl (hb hby hd) rfl hu hs, r⟩
theorem s_lneg (H : Ok Z k R Q y b ml rt) {x : Int64} (hd : decode b pc = .ok (.lneg, 1)) (hp : pc + 1 = pc') (g : Go Z k cn sn M pc' Ls (.long (-x) :: st)) : Go Z k cn sn M pc Ls (.long x :: st) := by
  obtain ⟨p, l, e, R', s, m, args, below, meth, c, Q'⟩ := k
  obtain ⟨hx, hZ, hby, -⟩ := H
  subst hp
  intro T w
  have w' := w
  obtain ⟨locs, X, F, O⟩ := w
  obtain ⟨t, o, hs, r⟩ := g T w'
  exact ⟨t, o, XS.lneg X.here hx rfl (hb hby hd) rfl hs, r⟩
theorem s_irem (H : Ok Z k R Q y b ml rt) {x u : Int32} (hd : decode b pc = .ok (.irem, 1)) (hu : u ≠ 0) (hp : pc + 1 = pc') (g : Go Z k cn sn M pc' Ls (.int (x % u) :: st)) : Go Z k cn sn M pc Ls (.int u :: .int x :: st) := by
  obtain ⟨p, l, e, R', s, m, args, below, meth, c, Q'⟩ := k
  obtain ⟨hx, hZ, hby, -⟩ := H
  subst hp
  intro T w
  have w' := w
  obtain ⟨locs, X, F, O⟩ := w
  obtain ⟨t, o, hs, r⟩ := g T w'
  exact ⟨t, o, iremM X hx rfl (hb hby hd) rfl hu hs, r⟩
theorem s_lrem (H : Ok Z k R Q y b ml rt) {x u : Int64} (hd : decode b pc = .ok (.lrem, 1)) (hu : u ≠ 0) (hp : pc + 1 = pc') (g : Go Z k cn sn M pc' Ls (.long (x % u) :: st)) : Go Z k cn sn M pc Ls (.long u :: .long x :: st) := by
  obtain ⟨p, l, e, R', s, m, args, below, meth, c, Q'⟩ := k
  obtain ⟨hx, hZ, hby, -⟩ := H
  subst hp
  intro T w
  have w' := w
  obtain ⟨locs, X, F, O⟩ := w
  obtain ⟨t, o, hs, r⟩ := g T w'
  exact ⟨t, o, XS.lrem X.here hx rfl (hb hby hd) rfl hu (lrem_mod x u ▸ hs), r⟩
theorem s_ishl (H : Ok Z k R Q y b ml rt) {x u : Int32} (hd : decode b pc = .ok (.ishl, 1)) (hp : pc + 1 = pc') (g : Go Z k cn sn M pc' Ls (.int (x <<< (u &&& 31)) :: st)) : Go Z k cn sn M pc Ls (.int u :: .int x :: st) := by
  obtain ⟨p, l, e, R', s, m, args, below, meth, c, Q'⟩ := k
  obtain ⟨hx, hZ, hby, -⟩ := H
  subst hp
  intro T w
  have w' := w
  obtain ⟨locs, X, F, O⟩ := w
  obtain ⟨t, o, hs, r⟩ := g T w'
  exact ⟨t, o, XS.ishl X.here hx rfl (hb hby hd) rfl hs, r⟩
theorem s_ishr (H : Ok Z k R Q y b ml rt) {x u : Int32} (hd : decode b pc = .ok (.ishr, 1)) (hp : pc + 1 = pc') (g : Go Z k cn sn M pc' Ls (.int (x >>> (u &&& 31)) :: st)) : Go Z k cn sn M pc Ls (.int u :: .int x :: st) := by
  obtain ⟨p, l, e, R', s, m, args, below, meth, c, Q'⟩ := k
  obtain ⟨hx, hZ, hby, -⟩ := H
  subst hp
  intro T w
  have w' := w
  obtain ⟨locs, X, F, O⟩ := w
  obtain ⟨t, o, hs, r⟩ := g T w'
  exact ⟨t, o, XS.ishr X.here hx rfl (hb hby hd) rfl hs, r⟩
theorem s_iushr (H : Ok Z k R Q y b ml rt) {x u : Int32} (hd : decode b pc = .ok (.iushr, 1)) (hp : pc + 1 = pc') (g : Go Z k cn sn M pc' Ls (.int ((x.toUInt32 >>> (u &&& 31).toUInt32).toInt32) :: st)) : Go Z k cn sn M pc Ls (.int u :: .int x :: st) := by
  obtain ⟨p, l, e, R', s, m, args, below, meth, c, Q'⟩ := k
  obtain ⟨hx, hZ, hby, -⟩ := H
  subst hp
  intro T w
  have w' := w
  obtain ⟨locs, X, F, O⟩ := w
  obtain ⟨t, o, hs, r⟩ := g T w'
  exact ⟨t, o, XS.iushr X.here hx rfl (hb hby hd) rfl hs, r⟩
theorem s_lshl (H : Ok Z k R Q y b ml rt) {x : Int64} {u : Int32} (hd : decode b pc = .ok (.lshl, 1)) (hp : pc + 1 = pc') (g : Go Z k cn sn M pc' Ls (.long (x <<< (u &&& 0x3f).toInt64) :: st)) : Go Z k cn sn M pc Ls (.int u :: .long x :: st) := by
  obtain ⟨p, l, e, R', s, m, args, below, meth, c, Q'⟩ := k
  obtain ⟨hx, hZ, hby, -⟩ := H
  subst hp
  intro T w
  have w' := w
  obtain ⟨locs, X, F, O⟩ := w
  obtain ⟨t, o, hs, r⟩ := g T w'
  exact ⟨t, o, XS.lshl X.here hx rfl (hb hby hd) rfl hs, r⟩
theorem s_lshr (H : Ok Z k R Q y b ml rt) {x : Int64} {u : Int32} (hd : decode b pc = .ok (.lshr, 1)) (hp : pc + 1 = pc') (g : Go Z k cn sn M pc' Ls (.long (x >>> (u &&& 0x3f).toInt64) :: st)) : Go Z k cn sn M pc Ls (.int u :: .long x :: st) := by
  obtain ⟨p, l, e, R', s, m, args, below, meth, c, Q'⟩ := k
  obtain ⟨hx, hZ, hby, -⟩ := H
  subst hp
  intro T w
  have w' := w
  obtain ⟨locs, X, F, O⟩ := w
  obtain ⟨t, o, hs, r⟩ := g T w'
  exact ⟨t, o, XS.lshr X.here hx rfl (hb hby hd) rfl hs, r⟩
theorem s_lushr (H : Ok Z k R Q y b ml rt) {x : Int64} {u : Int32} (hd : decode b pc = .ok (.lushr, 1)) (hp : pc + 1 = pc') (g : Go Z k cn sn M pc' Ls (.long ((x.toUInt64 >>> (u &&& 0x3f).toInt64.toUInt64).toInt64) :: st)) : Go Z k cn sn M pc Ls (.int u :: .long x :: st) := by
  obtain ⟨p, l, e, R', s, m, args, below, meth, c, Q'⟩ := k
  obtain ⟨hx, hZ, hby, -⟩ := H
  subst hp
  intro T w
  have w' := w
  obtain ⟨locs, X, F, O⟩ := w
  obtain ⟨t, o, hs, r⟩ := g T w'
  exact ⟨t, o, XS.lushr X.here hx rfl (hb hby hd) rfl hs, r⟩
theorem s_i2l (H : Ok Z k R Q y b ml rt) {x : Int32} (hd : decode b pc = .ok (.i2l, 1)) (hp : pc + 1 = pc') (g : Go Z k cn sn M pc' Ls (.long (x.toInt64) :: st)) : Go Z k cn sn M pc Ls (.int x :: st) := by
  obtain ⟨p, l, e, R', s, m, args, below, meth, c, Q'⟩ := k
  obtain ⟨hx, hZ, hby, -⟩ := H
  subst hp
  intro T w
  have w' := w
  obtain ⟨locs, X, F, O⟩ := w
  obtain ⟨t, o, hs, r⟩ := g T w'
  exact ⟨t, o, XS.i2l X.here hx rfl (hb hby hd) rfl hs, r⟩
theorem s_l2i (H : Ok Z k R Q y b ml rt) {x : Int64} (hd : decode b pc = .ok (.l2i, 1)) (hp : pc + 1 = pc') (g : Go Z k cn sn M pc' Ls (.int (x.toInt32) :: st)) : Go Z k cn sn M pc Ls (.long x :: st) := by
  obtain ⟨p, l, e, R', s, m, args, below, meth, c, Q'⟩ := k
  obtain ⟨hx, hZ, hby, -⟩ := H
  subst hp
  intro T w
  have w' := w
  obtain ⟨locs, X, F, O⟩ := w
  obtain ⟨t, o, hs, r⟩ := g T w'
  exact ⟨t, o, XS.l2i X.here hx rfl (hb hby hd) rfl hs, r⟩
theorem s_i2b (H : Ok Z k R Q y b ml rt) {x : Int32} (hd : decode b pc = .ok (.i2b, 1)) (hp : pc + 1 = pc') (g : Go Z k cn sn M pc' Ls (.int (x.toInt8.toInt32) :: st)) : Go Z k cn sn M pc Ls (.int x :: st) := by
  obtain ⟨p, l, e, R', s, m, args, below, meth, c, Q'⟩ := k
  obtain ⟨hx, hZ, hby, -⟩ := H
  subst hp
  intro T w
  have w' := w
  obtain ⟨locs, X, F, O⟩ := w
  obtain ⟨t, o, hs, r⟩ := g T w'
  exact ⟨t, o, XS.i2b X.here hx rfl (hb hby hd) rfl hs, r⟩
theorem s_i2c (H : Ok Z k R Q y b ml rt) {x : Int32} (hd : decode b pc = .ok (.i2c, 1)) (hp : pc + 1 = pc') (g : Go Z k cn sn M pc' Ls (.int (x.toUInt32.toUInt16.toUInt32.toInt32) :: st)) : Go Z k cn sn M pc Ls (.int x :: st) := by
  obtain ⟨p, l, e, R', s, m, args, below, meth, c, Q'⟩ := k
  obtain ⟨hx, hZ, hby, -⟩ := H
  subst hp
  intro T w
  have w' := w
  obtain ⟨locs, X, F, O⟩ := w
  obtain ⟨t, o, hs, r⟩ := g T w'
  exact ⟨t, o, XS.i2c X.here hx rfl (hb hby hd) rfl hs, r⟩
theorem s_i2s (H : Ok Z k R Q y b ml rt) {x : Int32} (hd : decode b pc = .ok (.i2s, 1)) (hp : pc + 1 = pc') (g : Go Z k cn sn M pc' Ls (.int (x.toInt16.toInt32) :: st)) : Go Z k cn sn M pc Ls (.int x :: st) := by
  obtain ⟨p, l, e, R', s, m, args, below, meth, c, Q'⟩ := k
  obtain ⟨hx, hZ, hby, -⟩ := H
  subst hp
  intro T w
  have w' := w
  obtain ⟨locs, X, F, O⟩ := w
  obtain ⟨t, o, hs, r⟩ := g T w'
  exact ⟨t, o, XS.i2s X.here hx rfl (hb hby hd) rfl hs, r⟩
theorem s_lcmp (H : Ok Z k R Q y b ml rt) {x u : Int64} (hd : decode b pc = .ok (.lcmp, 1)) (hp : pc + 1 = pc') (g : Go Z k cn sn M pc' Ls (.int (lcmpW x u) :: st)) : Go Z k cn sn M pc Ls (.long u :: .long x :: st) := by
  obtain ⟨p, l, e, R', s, m, args, below, meth, c, Q'⟩ := k
  obtain ⟨hx, hZ, hby, -⟩ := H
  subst hp
  intro T w
  have w' := w
  obtain ⟨locs, X, F, O⟩ := w
  obtain ⟨t, o, hs, r⟩ := g T w'
  exact ⟨t, o, XS.lcmp X.here hx rfl (hb hby hd) rfl hs, r⟩
theorem s_dup (H : Ok Z k R Q y b ml rt) {v : Value} (hd : decode b pc = .ok (.dup, 1)) (hc : v.category = 1) (hp : pc + 1 = pc') (g : Go Z k cn sn M pc' Ls (v :: v :: st)) : Go Z k cn sn M pc Ls (v :: st) := by
  obtain ⟨p, l, e, R', s, m, args, below, meth, c, Q'⟩ := k
  obtain ⟨hx, hZ, hby, -⟩ := H
  subst hp
  intro T w
  have w' := w
  obtain ⟨locs, X, F, O⟩ := w
  obtain ⟨t, o, hs, r⟩ := g T w'
  exact ⟨t, o, XS.dup X.here hx rfl (hb hby hd) rfl hc hs, r⟩
theorem s_dupx1 (H : Ok Z k R Q y b ml rt) {v v' : Value} (hd : decode b pc = .ok (.dup_x1, 1)) (hc : v.category = 1) (hc' : v'.category = 1) (hp : pc + 1 = pc') (g : Go Z k cn sn M pc' Ls (v :: v' :: v :: st)) : Go Z k cn sn M pc Ls (v :: v' :: st) := by
  obtain ⟨p, l, e, R', s, m, args, below, meth, c, Q'⟩ := k
  obtain ⟨hx, hZ, hby, -⟩ := H
  subst hp
  intro T w
  have w' := w
  obtain ⟨locs, X, F, O⟩ := w
  obtain ⟨t, o, hs, r⟩ := g T w'
  exact ⟨t, o, XS.dupX1 X.here hx rfl (hb hby hd) rfl hc hc' hs, r⟩
theorem s_dup2 (H : Ok Z k R Q y b ml rt) {v v' : Value} (hd : decode b pc = .ok (.dup2, 1)) (hc : v.category = 1) (hc' : v'.category = 1) (hp : pc + 1 = pc') (g : Go Z k cn sn M pc' Ls (v :: v' :: v :: v' :: st)) : Go Z k cn sn M pc Ls (v :: v' :: st) := by
  obtain ⟨p, l, e, R', s, m, args, below, meth, c, Q'⟩ := k
  obtain ⟨hx, hZ, hby, -⟩ := H
  subst hp
  intro T w
  have w' := w
  obtain ⟨locs, X, F, O⟩ := w
  obtain ⟨t, o, hs, r⟩ := g T w'
  exact ⟨t, o, XT.dup2 X.here hx rfl (hb hby hd) rfl hc hc' hs, r⟩
theorem s_dup2l (H : Ok Z k R Q y b ml rt) {x : Int64} (hd : decode b pc = .ok (.dup2, 1)) (hp : pc + 1 = pc') (g : Go Z k cn sn M pc' Ls (.long x :: .long x :: st)) : Go Z k cn sn M pc Ls (.long x :: st) := by
  obtain ⟨p, l, e, R', s, m, args, below, meth, c, Q'⟩ := k
  obtain ⟨hx, hZ, hby, -⟩ := H
  subst hp
  intro T w
  have w' := w
  obtain ⟨locs, X, F, O⟩ := w
  obtain ⟨t, o, hs, r⟩ := g T w'
  exact ⟨t, o, XT.dup2L X.here hx rfl (hb hby hd) rfl hs, r⟩
theorem s_pop (H : Ok Z k R Q y b ml rt) {v : Value} (hd : decode b pc = .ok (.pop, 1)) (hc : v.category = 1) (hp : pc + 1 = pc') (g : Go Z k cn sn M pc' Ls (st)) : Go Z k cn sn M pc Ls (v :: st) := by
  obtain ⟨p, l, e, R', s, m, args, below, meth, c, Q'⟩ := k
  obtain ⟨hx, hZ, hby, -⟩ := H
  subst hp
  intro T w
  have w' := w
  obtain ⟨locs, X, F, O⟩ := w
  obtain ⟨t, o, hs, r⟩ := g T w'
  exact ⟨t, o, XS.pop X.here hx rfl (hb hby hd) rfl hc hs, r⟩
theorem s_iinc (H : Ok Z k R Q y b ml rt) {i : Nat} {cst : Int} {x u : Int32} {L' : Int32 → Array Slot} (hd : decode b pc = .ok (.iinc i cst, 3)) (hl0 : Ls[i]? = some (.val (.int x))) (hu : u = Int32.ofInt cst) (hl : ∀ z, storeLocals Ls i (.int z) = some (L' z)) (hp : pc + 3 = pc') (g : ∀ z, z = x + u → Go Z k cn sn M pc' (L' z) st) : Go Z k cn sn M pc Ls st := by
  obtain ⟨p, l, e, R', s, m, args, below, meth, c, Q'⟩ := k
  obtain ⟨hx, hZ, hby, -⟩ := H
  subst hp hu
  intro T w
  have w' := w
  obtain ⟨locs, X, F, O⟩ := w
  obtain ⟨t, o, hs, r⟩ := g _ rfl T w'
  exact ⟨t, o, XS.iinc X.here hx rfl (hb hby hd) hl0 (hl _) hs, r⟩
theorem s_goto (H : Ok Z k R Q y b ml rt) {o : Int} (hd : decode b pc = .ok (.goto o, 3)) (ho : (pc : Int) + o = pc') (g : Go Z k cn sn M pc' Ls st) : Go Z k cn sn M pc Ls st := by
  obtain ⟨p, l, e, R', s, m, args, below, meth, c, Q'⟩ := k
  obtain ⟨hx, hZ, hby, -⟩ := H
  intro T w
  have w' := w
  obtain ⟨locs, X, F, O⟩ := w
  obtain ⟨t, o, hs, r⟩ := g T w'
  exact ⟨t, o, XS.goto X.here hx rfl (pc0 := pc) rfl (hb hby hd) (by omega) (by omega) hs, r⟩
theorem s_if (H : Ok Z k R Q y b ml rt) {cd : ClassFile.Cond} {o : Int} {x : Int32} {py : Nat} {φ : Prop} (hd : decode b pc = .ok (.ifCond cd o, 3)) (hq : ifCond.holds cd x = true ↔ φ) (ho : (pc : Int) + o = py) (hp : pc + 3 = pc') (gy : φ → Go Z k cn sn M py Ls st) (gn : ¬ φ → Go Z k cn sn M pc' Ls st) : Go Z k cn sn M pc Ls (.int x :: st) := by
  obtain ⟨p, l, e, R', s, m, args, below, meth, c, Q'⟩ := k
  obtain ⟨hx, hZ, hby, -⟩ := H
  subst hp
  intro T w
  have w' := w
  obtain ⟨locs, X, F, O⟩ := w
  cases hh : ifCond.holds cd x with
  | true =>
    obtain ⟨t, o, hs, r⟩ := gy (hq.mp hh) T w'
    exact ⟨t, o, XS.ifYes X.here hx rfl (pc0 := pc) rfl (hb hby hd) rfl hh (by omega) (by omega) hs, r⟩
  | false =>
    obtain ⟨t, o, hs, r⟩ := gn (fun q => by rw [hq.mpr q] at hh; cases hh) T w'
    exact ⟨t, o, XS.ifNo X.here hx rfl (hb hby hd) rfl hh hs, r⟩
theorem s_icmp (H : Ok Z k R Q y b ml rt) {cd : ClassFile.Cond} {o : Int} {x u : Int32} {py : Nat} {φ : Prop} (hd : decode b pc = .ok (.if_icmp cd o, 3)) (hq : if_icmp.holds cd x u = true ↔ φ) (ho : (pc : Int) + o = py) (hp : pc + 3 = pc') (gy : φ → Go Z k cn sn M py Ls st) (gn : ¬ φ → Go Z k cn sn M pc' Ls st) : Go Z k cn sn M pc Ls (.int u :: .int x :: st) := by
  obtain ⟨p, l, e, R', s, m, args, below, meth, c, Q'⟩ := k
  obtain ⟨hx, hZ, hby, -⟩ := H
  subst hp
  intro T w
  have w' := w
  obtain ⟨locs, X, F, O⟩ := w
  cases hh : if_icmp.holds cd x u with
  | true =>
    obtain ⟨t, o, hs, r⟩ := gy (hq.mp hh) T w'
    exact ⟨t, o, XS.icmpYes X.here hx rfl (pc0 := pc) rfl (hb hby hd) rfl hh (by omega) (by omega) hs, r⟩
  | false =>
    obtain ⟨t, o, hs, r⟩ := gn (fun q => by rw [hq.mpr q] at hh; cases hh) T w'
    exact ⟨t, o, XS.icmpNo X.here hx rfl (hb hby hd) rfl hh hs, r⟩
theorem q_eq {x u : Int32} : if_icmp.holds .eq x u = true ↔ x = u := by simp [if_icmp.holds]
theorem z_eq {x : Int32} : ifCond.holds .eq x = true ↔ x = 0 := by rw [if0]; exact q_eq
theorem q_ne {x u : Int32} : if_icmp.holds .ne x u = true ↔ ¬ x = u := by simp [if_icmp.holds]
theorem z_ne {x : Int32} : ifCond.holds .ne x = true ↔ ¬ x = 0 := by rw [if0]; exact q_ne
theorem q_lt {x u : Int32} : if_icmp.holds .lt x u = true ↔ x < u := by simp [if_icmp.holds]
theorem z_lt {x : Int32} : ifCond.holds .lt x = true ↔ x < 0 := by rw [if0]; exact q_lt
theorem q_ge {x u : Int32} : if_icmp.holds .ge x u = true ↔ u ≤ x := by simp [if_icmp.holds]
theorem z_ge {x : Int32} : ifCond.holds .ge x = true ↔ 0 ≤ x := by rw [if0]; exact q_ge
theorem q_gt {x u : Int32} : if_icmp.holds .gt x u = true ↔ u < x := by simp [if_icmp.holds]
theorem z_gt {x : Int32} : ifCond.holds .gt x = true ↔ 0 < x := by rw [if0]; exact q_gt
theorem q_le {x u : Int32} : if_icmp.holds .le x u = true ↔ x ≤ u := by simp [if_icmp.holds]
theorem z_le {x : Int32} : ifCond.holds .le x = true ↔ x ≤ 0 := by rw [if0]; exact q_le
theorem l_eq {x u : Int64} : ifCond.holds .eq (lcmpW x u) = true ↔ x = u := z_eq.trans (lw_eq x u)
theorem l_ne {x u : Int64} : ifCond.holds .ne (lcmpW x u) = true ↔ ¬ x = u := z_ne.trans (not_congr (lw_eq x u))
theorem l_lt {x u : Int64} : ifCond.holds .lt (lcmpW x u) = true ↔ x < u := z_lt.trans (lw_lt x u)
theorem l_gt {x u : Int64} : ifCond.holds .gt (lcmpW x u) = true ↔ u < x := z_gt.trans (lw_gt x u)
theorem l_ge {x u : Int64} : ifCond.holds .ge (lcmpW x u) = true ↔ u ≤ x := z_ge.trans (by rw [lcW]; exact lc_ge x u)
theorem l_le {x u : Int64} : ifCond.holds .le (lcmpW x u) = true ↔ x ≤ u := z_le.trans (by rw [lcW]; exact lc_le x u)
theorem s_ifnull (H : Ok Z k R Q y b ml rt) {o : Int} {a : Addr} (hd : decode b pc = .ok (.ifnull o, 3)) (hp : pc + 3 = pc') (g : Go Z k cn sn M pc' Ls st) : Go Z k cn sn M pc Ls (.ref a :: st) := by
  obtain ⟨p, l, e, R', s, m, args, below, meth, c, Q'⟩ := k
  obtain ⟨hx, hZ, hby, -⟩ := H
  subst hp
  intro T w
  have w' := w
  obtain ⟨locs, X, F, O⟩ := w
  obtain ⟨t, o, hs, r⟩ := g T w'
  exact ⟨t, o, XS.ifnullNo X.here hx rfl (hb hby hd) rfl hs, r⟩
theorem s_acmpne (H : Ok Z k R Q y b ml rt) {o : Int} {a a' : Addr} {py : Nat} (hd : decode b pc = .ok (.if_acmp .ne o, 3)) (hne : a ≠ a') (ho : (pc : Int) + o = py) (g : Go Z k cn sn M py Ls st) : Go Z k cn sn M pc Ls (.ref a' :: .ref a :: st) := by
  obtain ⟨p, l, e, R', s, m, args, below, meth, c, Q'⟩ := k
  obtain ⟨hx, hZ, hby, -⟩ := H
  intro T w
  have w' := w
  obtain ⟨locs, X, F, O⟩ := w
  obtain ⟨t, o, hs, r⟩ := g T w'
  exact ⟨t, o, XS.acmpYes X.here hx rfl (pc0 := pc) rfl (hb hby hd) rfl (by simp [if_acmp.holds, hne]) (by omega) (by omega) hs, r⟩
theorem s_acmpeq (H : Ok Z k R Q y b ml rt) {o : Int} {a a' : Addr} (hd : decode b pc = .ok (.if_acmp .eq o, 3)) (hne : a ≠ a') (hp : pc + 3 = pc') (g : Go Z k cn sn M pc' Ls st) : Go Z k cn sn M pc Ls (.ref a' :: .ref a :: st) := by
  obtain ⟨p, l, e, R', s, m, args, below, meth, c, Q'⟩ := k
  obtain ⟨hx, hZ, hby, -⟩ := H
  subst hp
  intro T w
  have w' := w
  obtain ⟨locs, X, F, O⟩ := w
  obtain ⟨t, o, hs, r⟩ := g T w'
  exact ⟨t, o, XS.acmpNo X.here hx rfl (hb hby hd) rfl (by simp [if_acmp.holds, hne]) hs, r⟩
theorem s_ldc2 (H : Ok Z k R Q y b ml rt) {i : Nat} {z : Int64} (hd : decode b pc = .ok (.ldc2_w i, 3)) (w1 : Jvm.Cond.constantLong y.cls i z ∈ tables_1) (hp : pc + 3 = pc') (g : Go Z k cn sn M pc' Ls (.long z :: st)) : Go Z k cn sn M pc Ls st := by
  obtain ⟨p, l, e, R', s, m, args, below, meth, c, Q'⟩ := k
  obtain ⟨hx, hZ, hby, -, hown, -, -, -, ⟨a0, hw⟩, -⟩ := H
  subst hp
  intro T w
  have w' := w
  obtain ⟨locs, X, F, O⟩ := w
  obtain ⟨t, o, hs, r⟩ := g T w'
  exact ⟨t, o, X.ldc2Long hx hown (mvT hZ (hw _ w1)) (g := mkF m pc Ls st) rfl (hb hby hd) _ hs, r⟩
theorem s_ldc (H : Ok Z k R Q y b ml rt) {i : Nat} {z : Int32} (hd : decode b pc = .ok (.ldc i, 2)) (w1 : Jvm.Cond.constant y.cls i z ∈ tables_1) (hp : pc + 2 = pc') (g : Go Z k cn sn M pc' Ls (.int z :: st)) : Go Z k cn sn M pc Ls st := by
  obtain ⟨p, l, e, R', s, m, args, below, meth, c, Q'⟩ := k
  obtain ⟨hx, hZ, hby, -, hown, -, -, -, ⟨a0, hw⟩, -⟩ := H
  subst hp
  intro T w
  have w' := w
  obtain ⟨locs, X, F, O⟩ := w
  obtain ⟨t, o, hs, r⟩ := g T w'
  exact ⟨t, o, X.ldcInt hx hown (mvT hZ (hw _ w1)) (g := mkF m pc Ls st) rfl (hb hby hd) _ hs, r⟩
/-! the heap's steps -/
theorem nb_of {n : Nat} {j : Int32} (h0 : ¬ j < 0) (hl : j.toNatClampNeg < n) : ¬ (j < 0 ∨ n ≤ j.toNatClampNeg) := fun q => q.elim h0 fun r => Nat.not_lt.mpr r hl
theorem s_alenI (H : Ok Z k R Q y b ml rt) {i : Nat} {a : Addr} {ty : FieldType} {vs : List Int32} {z : Int32} (hd : decode b pc = .ok (.arraylength, 1)) (hi : M[i]? = some (a, ArI Z ty vs)) (hz : z = vs.length.toInt32) (hp : pc + 1 = pc') (g : Go Z k cn sn M pc' Ls (.int z :: st)) : Go Z k cn sn M pc Ls (.ref a :: st) := by
  obtain ⟨p, l, e, R', s, m, args, below, meth, c, Q'⟩ := k
  obtain ⟨hx, hZ, hby, -⟩ := H
  subst hp hz
  intro T w
  have w' := w
  obtain ⟨locs, X, F, O⟩ := w
  obtain ⟨-, cl, q1, q2⟩ := O.2.1 i _ hi
  obtain ⟨t, o, hs, r⟩ := g T w'
  exact ⟨t, o, X.arraylength hx q1 (State.isArrayOf_alike hZ.alike q2.1) (g := mkF m pc Ls (.ref a :: st)) rfl rfl (hb hby hd) _ (by rw [q2.size]; exact hs), r⟩
theorem s_alenL (H : Ok Z k R Q y b ml rt) {i : Nat} {a : Addr} {vs : List Int64} {z : Int32} (hd : decode b pc = .ok (.arraylength, 1)) (hi : M[i]? = some (a, ArL Z vs)) (hz : z = vs.length.toInt32) (hp : pc + 1 = pc') (g : Go Z k cn sn M pc' Ls (.int z :: st)) : Go Z k cn sn M pc Ls (.ref a :: st) := by
  obtain ⟨p, l, e, R', s, m, args, below, meth, c, Q'⟩ := k
  obtain ⟨hx, hZ, hby, -⟩ := H
  subst hp hz
  intro T w
  have w' := w
  obtain ⟨locs, X, F, O⟩ := w
  obtain ⟨-, cl, q1, q2⟩ := O.2.1 i _ hi
  obtain ⟨t, o, hs, r⟩ := g T w'
  exact ⟨t, o, X.arraylength hx q1 (State.isArrayOf_alike hZ.alike q2.1) (g := mkF m pc Ls (.ref a :: st)) rfl rfl (hb hby hd) _ (by rw [q2.size]; exact hs), r⟩
theorem s_iaload (H : Ok Z k R Q y b ml rt) {i : Nat} {a : Addr} {vs : List Int32} {j : Int32} {x : Int32} (hd : decode b pc = .ok (.iaload, 1)) (hi : M[i]? = some (a, ArI Z .int vs)) (h0 : ¬ j < 0) {jn : Nat} (hjn : j.toNatClampNeg = jn) (hv : vs[jn]? = some x) (hp : pc + 1 = pc') (g : Go Z k cn sn M pc' Ls (.int x :: st)) : Go Z k cn sn M pc Ls (.int j :: .ref a :: st) := by
  obtain ⟨p, l, e, R', s, m, args, below, meth, c, Q'⟩ := k
  obtain ⟨hx, hZ, hby, -⟩ := H
  subst hp hjn
  intro T w
  have w' := w
  obtain ⟨locs, X, F, O⟩ := w
  obtain ⟨-, cl, q1, q2⟩ := O.2.1 i _ hi
  obtain ⟨t, o, hs, r⟩ := g T w'
  have hlt : j.toNatClampNeg < vs.length := (List.getElem?_eq_some_iff.mp hv).1
  exact ⟨t, o, X.iaload hx (v := .int x) q1 (State.isArrayOf_alike hZ.alike q2.1) q2.2.1 (nb_of h0 (by rw [q2.size]; exact hlt)) (by rw [q2.2.2.1]; simp [hv]) (g := mkF m pc Ls (.int j :: .ref a :: st)) rfl rfl (hb hby hd) _ hs, r⟩
theorem s_baload (H : Ok Z k R Q y b ml rt) {i : Nat} {a : Addr} {vs : List Int32} {j : Int32} {x : Int32} (hd : decode b pc = .ok (.baload, 1)) (hi : M[i]? = some (a, ArI Z .byte vs)) (h0 : ¬ j < 0) {jn : Nat} (hjn : j.toNatClampNeg = jn) (hv : vs[jn]? = some x) (hp : pc + 1 = pc') (g : Go Z k cn sn M pc' Ls (.int x :: st)) : Go Z k cn sn M pc Ls (.int j :: .ref a :: st) := by
  obtain ⟨p, l, e, R', s, m, args, below, meth, c, Q'⟩ := k
  obtain ⟨hx, hZ, hby, -⟩ := H
  subst hp hjn
  intro T w
  have w' := w
  obtain ⟨locs, X, F, O⟩ := w
  obtain ⟨-, cl, q1, q2⟩ := O.2.1 i _ hi
  obtain ⟨t, o, hs, r⟩ := g T w'
  have hlt : j.toNatClampNeg < vs.length := (List.getElem?_eq_some_iff.mp hv).1
  exact ⟨t, o, X.baloadBytes hx (v := .int x) q1 (State.isArrayOf_alike hZ.alike q2.1) q2.2.1 (nb_of h0 (by rw [q2.size]; exact hlt)) (by rw [q2.2.2.1]; simp [hv]) (g := mkF m pc Ls (.int j :: .ref a :: st)) rfl rfl (hb hby hd) _ hs, r⟩
theorem s_zaload (H : Ok Z k R Q y b ml rt) {i : Nat} {a : Addr} {vs : List Int32} {j : Int32} {x : Int32} (hd : decode b pc = .ok (.baload, 1)) (hi : M[i]? = some (a, ArI Z .boolean vs)) (h0 : ¬ j < 0) {jn : Nat} (hjn : j.toNatClampNeg = jn) (hv : vs[jn]? = some x) (hp : pc + 1 = pc') (g : Go Z k cn sn M pc' Ls (.int x :: st)) : Go Z k cn sn M pc Ls (.int j :: .ref a :: st) := by
  obtain ⟨p, l, e, R', s, m, args, below, meth, c, Q'⟩ := k
  obtain ⟨hx, hZ, hby, -⟩ := H
  subst hp hjn
  intro T w
  have w' := w
  obtain ⟨locs, X, F, O⟩ := w
  obtain ⟨-, cl, q1, q2⟩ := O.2.1 i _ hi
  obtain ⟨t, o, hs, r⟩ := g T w'
  have hlt : j.toNatClampNeg < vs.length := (List.getElem?_eq_some_iff.mp hv).1
  exact ⟨t, o, X.baloadBooleans hx (v := .int x) q1 (State.isArrayOf_alike hZ.alike q2.1) q2.2.1 (nb_of h0 (by rw [q2.size]; exact hlt)) (by rw [q2.2.2.1]; simp [hv]) (g := mkF m pc Ls (.int j :: .ref a :: st)) rfl rfl (hb hby hd) _ hs, r⟩
theorem s_laload (H : Ok Z k R Q y b ml rt) {i : Nat} {a : Addr} {vs : List Int64} {j : Int32} {x : Int64} (hd : decode b pc = .ok (.laload, 1)) (hi : M[i]? = some (a, ArL Z vs)) (h0 : ¬ j < 0) {jn : Nat} (hjn : j.toNatClampNeg = jn) (hv : vs[jn]? = some x) (hp : pc + 1 = pc') (g : Go Z k cn sn M pc' Ls (.long x :: st)) : Go Z k cn sn M pc Ls (.int j :: .ref a :: st) := by
  obtain ⟨p, l, e, R', s, m, args, below, meth, c, Q'⟩ := k
  obtain ⟨hx, hZ, hby, -⟩ := H
  subst hp hjn
  intro T w
  have w' := w
  obtain ⟨locs, X, F, O⟩ := w
  obtain ⟨-, cl, q1, q2⟩ := O.2.1 i _ hi
  obtain ⟨t, o, hs, r⟩ := g T w'
  have hlt : j.toNatClampNeg < vs.length := (List.getElem?_eq_some_iff.mp hv).1
  exact ⟨t, o, X.laload hx (v := .long x) q1 (State.isArrayOf_alike hZ.alike q2.1) q2.2.1 (nb_of h0 (by rw [q2.size]; exact hlt)) (by rw [q2.2.2.1]; simp [hv]) (g := mkF m pc Ls (.int j :: .ref a :: st)) rfl rfl (hb hby hd) _ hs, r⟩
theorem s_iastore (H : Ok Z k R Q y b ml rt) {i : Nat} {a : Addr} {vs : List Int32} {j : Int32} {x : Int32} (hd : decode b pc = .ok (.iastore, 1)) (hi : M[i]? = some (a, ArI Z .int vs)) (h0 : ¬ j < 0) {jn : Nat} (hjn : j.toNatClampNeg = jn) (hj : jn < vs.length) (hp : pc + 1 = pc') (g : Go Z k cn sn (M.set i (a, ArI Z .int (vs.set jn x))) pc' Ls st) : Go Z k cn sn M pc Ls (.int x :: .int j :: .ref a :: st) := by
  obtain ⟨p, l, e, R', s, m, args, below, meth, c, Q'⟩ := k
  obtain ⟨hx, hZ, hby, -⟩ := H
  subst hp hjn
  intro T w
  obtain ⟨locs, X, F, O⟩ := w
  obtain ⟨q0, cl, q1, q2⟩ := O.2.1 i _ hi
  obtain ⟨T', h', X', e', W, sg⟩ := stI X hx hZ rfl (q2.arr q1) (j := j) (nb_of h0 (by rw [q2.size]; exact hj)) (g := mkF m pc Ls (.int x :: .int j :: .ref a :: st)) rfl rfl (hb hby hd)
  obtain ⟨t, o, hs, r⟩ := g T' ⟨_, X', Fr.snoc X' F q0, e' ▸ O.upd hi W fun c _ hc => hc.put _ rfl⟩
  exact ⟨t, o, sg _ hs, r⟩
theorem s_bastore (H : Ok Z k R Q y b ml rt) {i : Nat} {a : Addr} {vs : List Int32} {j : Int32} {x0 x : Int32} (hd : decode b pc = .ok (.bastore, 1)) (hi : M[i]? = some (a, ArI Z .byte vs)) (h0 : ¬ j < 0) {jn : Nat} (hjn : j.toNatClampNeg = jn) (hj : jn < vs.length) (hn : x = nar .byte x0) (hp : pc + 1 = pc') (g : Go Z k cn sn (M.set i (a, ArI Z .byte (vs.set jn x))) pc' Ls st) : Go Z k cn sn M pc Ls (.int x0 :: .int j :: .ref a :: st) := by
  obtain ⟨p, l, e, R', s, m, args, below, meth, c, Q'⟩ := k
  obtain ⟨hx, hZ, hby, -⟩ := H
  subst hp hjn hn
  intro T w
  obtain ⟨locs, X, F, O⟩ := w
  obtain ⟨q0, cl, q1, q2⟩ := O.2.1 i _ hi
  obtain ⟨T', h', X', e', W, sg⟩ := stB X hx hZ rfl (q2.arr q1) (j := j) (nb_of h0 (by rw [q2.size]; exact hj)) (g := mkF m pc Ls (.int x0 :: .int j :: .ref a :: st)) rfl rfl (hb hby hd)
  obtain ⟨t, o, hs, r⟩ := g T' ⟨_, X', Fr.snoc X' F q0, e' ▸ O.upd hi W fun c _ hc => hc.put _ (fits_nar_byte _)⟩
  exact ⟨t, o, sg _ hs, r⟩
theorem s_zastore (H : Ok Z k R Q y b ml rt) {i : Nat} {a : Addr} {vs : List Int32} {j : Int32} {x0 x : Int32} (hd : decode b pc = .ok (.bastore, 1)) (hi : M[i]? = some (a, ArI Z .boolean vs)) (h0 : ¬ j < 0) {jn : Nat} (hjn : j.toNatClampNeg = jn) (hj : jn < vs.length) (hn : x = nar .boolean x0) (hp : pc + 1 = pc') (g : Go Z k cn sn (M.set i (a, ArI Z .boolean (vs.set jn x))) pc' Ls st) : Go Z k cn sn M pc Ls (.int x0 :: .int j :: .ref a :: st) := by
  obtain ⟨p, l, e, R', s, m, args, below, meth, c, Q'⟩ := k
  obtain ⟨hx, hZ, hby, -⟩ := H
  subst hp hjn hn
  intro T w
  obtain ⟨locs, X, F, O⟩ := w
  obtain ⟨q0, cl, q1, q2⟩ := O.2.1 i _ hi
  obtain ⟨T', h', X', e', W, sg⟩ := stZ X hx hZ rfl (q2.arr q1) (j := j) (nb_of h0 (by rw [q2.size]; exact hj)) (g := mkF m pc Ls (.int x0 :: .int j :: .ref a :: st)) rfl rfl (hb hby hd)
  obtain ⟨t, o, hs, r⟩ := g T' ⟨_, X', Fr.snoc X' F q0, e' ▸ O.upd hi W fun c _ hc => hc.put _ (fits_nar_bool _)⟩
  exact ⟨t, o, sg _ hs, r⟩
theorem s_lastore (H : Ok Z k R Q y b ml rt) {i : Nat} {a : Addr} {vs : List Int64} {j : Int32} {x : Int64} (hd : decode b pc = .ok (.lastore, 1)) (hi : M[i]? = some (a, ArL Z vs)) (h0 : ¬ j < 0) {jn : Nat} (hjn : j.toNatClampNeg = jn) (hj : jn < vs.length) (hp : pc + 1 = pc') (g : Go Z k cn sn (M.set i (a, ArL Z (vs.set jn x))) pc' Ls st) : Go Z k cn sn M pc Ls (.long x :: .int j :: .ref a :: st) := by
  obtain ⟨p, l, e, R', s, m, args, below, meth, c, Q'⟩ := k
  obtain ⟨hx, hZ, hby, -⟩ := H
  subst hp hjn
  intro T w
  obtain ⟨locs, X, F, O⟩ := w
  obtain ⟨q0, cl, q1, q2⟩ := O.2.1 i _ hi
  obtain ⟨T', h', X', e', W, sg⟩ := stJ X hx hZ rfl (q2.arr q1) (j := j) (nb_of h0 (by rw [q2.size]; exact hj)) (g := mkF m pc Ls (.long x :: .int j :: .ref a :: st)) rfl rfl (hb hby hd)
  obtain ⟨t, o, hs, r⟩ := g T' ⟨_, X', Fr.snoc X' F q0, e' ▸ O.upd hi W fun c _ hc => hc.put _⟩
  exact ⟨t, o, sg _ hs, r⟩
theorem s_getf (H : Ok Z k R Q y b ml rt) {i j idx : Nat} {a : Addr} {C O n d : String} {fs : List Fd} {v : Value} (hd : decode b pc = .ok (.getfield idx, 3)) (w1 : Jvm.Cond.fieldLink y.cls idx O n d ∈ tables_1) (hi : M[i]? = some (a, Obj Z C fs)) (hj : fs[j]? = some (O, n, d, v)) (hp : pc + 3 = pc') (g : Go Z k cn sn M pc' Ls (v :: st)) : Go Z k cn sn M pc Ls (.ref a :: st) := by
  obtain ⟨p, l, e, R', s, m, args, below, meth, c, Q'⟩ := k
  obtain ⟨hx, hZ, hby, -, hown, -, -, -, ⟨a0, hw⟩, -⟩ := H
  subst hp
  intro T w
  obtain ⟨locs, X, F, OO⟩ := w
  obtain ⟨-, cl, q1, q2⟩ := OO.2.1 i _ hi
  obtain ⟨T', X', e', sg⟩ := getF X hx hZ hown (host := "") (Or.inl (hw _ w1)) Via.refl rfl ((q2.1 _ _ q1).2 j _ hj) (g := mkF m pc Ls (.ref a :: st)) rfl rfl (hb hby hd)
  obtain ⟨t, o, hs, r⟩ := g T' ⟨_, X', F, e' ▸ OO⟩
  exact ⟨t, o, sg _ hs, r⟩
theorem s_getfN (H : Ok Z k R Q y b ml rt) {i j idx : Nat} {a : Addr} {C O n d host : String} {fs : List Fd} {v : Value} (hd : decode b pc = .ok (.getfield idx, 3)) (w1 : Jvm.Cond.fieldLinkNest y.cls idx O n d host ∈ tables_1) (hi : M[i]? = some (a, Obj Z C fs)) (hj : fs[j]? = some (O, n, d, v)) (hp : pc + 3 = pc') (g : Go Z k cn sn M pc' Ls (v :: st)) : Go Z k cn sn M pc Ls (.ref a :: st) := by
  obtain ⟨p, l, e, R', s, m, args, below, meth, c, Q'⟩ := k
  obtain ⟨hx, hZ, hby, -, hown, -, -, -, ⟨a0, hw⟩, -⟩ := H
  subst hp
  intro T w
  obtain ⟨locs, X, F, OO⟩ := w
  obtain ⟨-, cl, q1, q2⟩ := OO.2.1 i _ hi
  obtain ⟨T', X', e', sg⟩ := getF X hx hZ hown (host := host) (Or.inr (hw _ w1)) Via.refl rfl ((q2.1 _ _ q1).2 j _ hj) (g := mkF m pc Ls (.ref a :: st)) rfl rfl (hb hby hd)
  obtain ⟨t, o, hs, r⟩ := g T' ⟨_, X', F, e' ▸ OO⟩
  exact ⟨t, o, sg _ hs, r⟩
theorem s_putf (H : Ok Z k R Q y b ml rt) {i j idx kk : Nat} {a : Addr} {C O n d : String} {fs : List Fd} {v v0 : Value} {ty : FieldType} (hd : decode b pc = .ok (.putfield idx, 3)) (w1 : Jvm.Cond.fieldLink y.cls idx O n d ∈ tables_1) (w2 : Jvm.Cond.lays C O n d ∈ tables_1 ∨ (Jvm.Cond.laysFinal C O n d ∈ tables_1 ∧ y.cls = O ∧ y.name = "<init>")) (w3 : Jvm.Cond.instantiable C kk ∈ tables_1)
    (hty : parseFieldDescriptor d = some ty) (hn : narrow ty v = v) (hf : fits ty v = true) (hi : M[i]? = some (a, Obj Z C fs)) (hj : fs[j]? = some (O, n, d, v0)) (hp : pc + 3 = pc') (g : Go Z k cn sn (M.set i (a, Obj Z C (fs.set j (O, n, d, v)))) pc' Ls st) : Go Z k cn sn M pc Ls (v :: .ref a :: st) := by
  obtain ⟨p, l, e, R', s, m, args, below, meth, c, Q'⟩ := k
  obtain ⟨hx, hZ, hby, -, hown, hnm, -, -, ⟨a0, hw⟩, -⟩ := H
  subst hp
  intro T w
  obtain ⟨locs, X, F, OO⟩ := w
  obtain ⟨q0, cl, q1, q2⟩ := OO.2.1 i _ hi
  obtain ⟨T', h', X', e', W, sg⟩ := putF X hx hZ hown (host := "") (Or.inl (hw _ w1)) Via.refl rfl ((q2.1 _ _ q1).2 j _ hj) (q2.1 _ _ q1).1 (w2.imp (fun q => hw _ q) fun q => ⟨hw _ q.1, q.2.1, hnm.trans q.2.2⟩) (hw _ w3) hty hn hf (g := mkF m pc Ls (v :: .ref a :: st)) rfl rfl (hb hby hd)
  obtain ⟨t, o, hs, r⟩ := g T' ⟨_, X', Fr.snoc X' F q0, e' ▸ OO.upd hi W fun c hc1 hc => hc.put hj hc1 W⟩
  exact ⟨t, o, sg _ hs, r⟩
def Dflt (C : String) (f : Fd) : Prop := (Jvm.Cond.lays C f.1 f.2.1 f.2.2.1 ∈ tables_1 ∨ Jvm.Cond.laysFinal C f.1 f.2.1 f.2.2.1 ∈ tables_1) ∧ ∃ ty, parseFieldDescriptor f.2.2.1 = some ty ∧ f.2.2.2 = defaultValue ty
theorem s_new (H : Ok Z k R Q y b ml rt) {idx n cn' sn' : Nat} {C : String} (fs : List Fd) (hd : decode b pc = .ok (.new idx, 3)) (w1 : Jvm.Cond.classLink y.cls idx C ∈ tables_1) (w2 : Jvm.Cond.instantiable C n ∈ tables_1) (w3 : Jvm.Cond.initialized C ∈ tables_1) (hD : ∀ f ∈ fs, Dflt C f) (hN : (fs.map fun f => f.2.1).Nodup) (hc : cn + 1 = cn') (hs : sn + n = sn') (hc' : cn' ≤ R.cells) (hs' : sn' ≤ R.slots) (hp : pc + 3 = pc')
    (g : ∀ a, Go Z k cn' sn' ((a, Obj Z C fs) :: M) pc' Ls (.ref a :: st)) : Go Z k cn sn M pc Ls st := by
  obtain ⟨p, l, e, R', s, m, args, below, meth, c, Q'⟩ := k
  obtain ⟨hx, hZ, hby, -, hown, hnm, -, -, ⟨a0, hw⟩, rfl, -⟩ := H
  subst hp hc hs
  intro T w
  obtain ⟨locs, X, F, OO⟩ := w
  obtain ⟨T', h', X', e', E, A, D, ⟨cell, hcell, -⟩, sg⟩ := newO X hx hZ hown (hw _ w1) (hw _ w2) (hw _ w3) rfl (g := mkF m pc Ls st) rfl (hb hby hd) hc' hs'
  have hL : ∀ f ∈ fs, Laid Z a0 C f.1 f.2.1 f.2.2.1 := fun f hf => (hD f hf).1.imp (fun q => hw _ q) fun q => hw _ q
  have hB : Obj Z C fs cell := by
    refine ⟨fun h2 a2 hc2 => ⟨exa_at_cell A hcell hc2, fun i f hf => ?_⟩, fun i j f f' hf hf' es => ?_⟩
    · have hm := List.mem_of_getElem? hf
      obtain ⟨-, ty, h1, h2⟩ := hD f hm
      rw [h2]
      exact fld_at_cell (D (hL f hm) h1) hcell hc2
    · obtain ⟨-, ty, h1, -⟩ := hD f (List.mem_of_getElem? hf)
      obtain ⟨-, ty', h1', -⟩ := hD f' (List.mem_of_getElem? hf')
      have hne : f.2.1 = f'.2.1 := Classical.byContradiction fun q => slot_ne (hL f (List.mem_of_getElem? hf)) (hL f' (List.mem_of_getElem? hf')) q h1 h1' es
      rw [List.nodup_iff_pairwise_ne, List.pairwise_iff_getElem] at hN
      obtain ⟨hi, rfl⟩ := List.getElem?_eq_some_iff.mp hf
      obtain ⟨hj, rfl⟩ := List.getElem?_eq_some_iff.mp hf'
      rcases Nat.lt_trichotomy i j with lt | rfl | lt
      · exact (hN i j (by simpa using hi) (by simpa using hj) lt (by simpa using hne)).elim
      · rfl
      · exact (hN j i (by simpa using hj) (by simpa using hi) lt (by simpa using hne.symm)).elim
  obtain ⟨t, o, hs, r⟩ := g _ T' ⟨_, X', F, e' ▸ OO.new E hcell hB⟩
  exact ⟨t, o, sg _ hs, r⟩
theorem s_newarr_int (H : Ok Z k R Q y b ml rt) {cn' sn' cap : Nat} {n : Int32} (hd : decode b pc = .ok (.newarray .int, 2)) (w1 : Jvm.Cond.arrayClass .int ∈ tables_1) (hn : ¬ n < 0) (hcap : n.toNatClampNeg ≤ cap) (hb8 : cap * 8 ≤ 536870912) (hc : cn + 1 = cn') (hs : sn + cap = sn') (hc' : cn' ≤ R.cells) (hs' : sn' ≤ R.slots) (hp : pc + 2 = pc')
    (g : ∀ a, Go Z k cn' sn' ((a, ArI Z .int (List.replicate n.toNatClampNeg 0)) :: M) pc' Ls (.ref a :: st)) : Go Z k cn sn M pc Ls (.int n :: st) := by
  obtain ⟨p, l, e, R', s, m, args, below, meth, c, Q'⟩ := k
  obtain ⟨hx, hZ, hby, -, hown, hnm, -, -, ⟨a0, hw⟩, rfl, -⟩ := H
  subst hp hc hs
  intro T w
  obtain ⟨locs, X, F, OO⟩ := w
  obtain ⟨T', h', cA, X', e', E, A, sg⟩ := newP X hx hZ (aty := .int) (hw _ w1) rfl (g := mkF m pc Ls (.int n :: st)) rfl (hb hby hd) rfl hn hcap hb8 hc' hs'
  have hB : ArI Z .int (List.replicate n.toNatClampNeg 0) (newA cA .int n) := ⟨A.2.1, A.2.2, by simp [newA, defaultValue], by simp; omega, fun x hx => by rw [List.eq_of_mem_replicate hx]; rfl⟩
  obtain ⟨t, o, hs, r⟩ := g _ T' ⟨_, X', F, e' ▸ OO.new E A.1 hB⟩
  exact ⟨t, o, sg _ hs, r⟩
theorem s_newarr_byte (H : Ok Z k R Q y b ml rt) {cn' sn' cap : Nat} {n : Int32} (hd : decode b pc = .ok (.newarray .byte, 2)) (w1 : Jvm.Cond.arrayClass .byte ∈ tables_1) (hn : ¬ n < 0) (hcap : n.toNatClampNeg ≤ cap) (hb8 : cap * 8 ≤ 536870912) (hc : cn + 1 = cn') (hs : sn + cap = sn') (hc' : cn' ≤ R.cells) (hs' : sn' ≤ R.slots) (hp : pc + 2 = pc')
    (g : ∀ a, Go Z k cn' sn' ((a, ArI Z .byte (List.replicate n.toNatClampNeg 0)) :: M) pc' Ls (.ref a :: st)) : Go Z k cn sn M pc Ls (.int n :: st) := by
  obtain ⟨p, l, e, R', s, m, args, below, meth, c, Q'⟩ := k
  obtain ⟨hx, hZ, hby, -, hown, hnm, -, -, ⟨a0, hw⟩, rfl, -⟩ := H
  subst hp hc hs
  intro T w
  obtain ⟨locs, X, F, OO⟩ := w
  obtain ⟨T', h', cA, X', e', E, A, sg⟩ := newP X hx hZ (aty := .byte) (hw _ w1) rfl (g := mkF m pc Ls (.int n :: st)) rfl (hb hby hd) rfl hn hcap hb8 hc' hs'
  have hB : ArI Z .byte (List.replicate n.toNatClampNeg 0) (newA cA .byte n) := ⟨A.2.1, A.2.2, by simp [newA, defaultValue], by simp; omega, fun x hx => by rw [List.eq_of_mem_replicate hx]; rfl⟩
  obtain ⟨t, o, hs, r⟩ := g _ T' ⟨_, X', F, e' ▸ OO.new E A.1 hB⟩
  exact ⟨t, o, sg _ hs, r⟩
theorem s_newarr_bool (H : Ok Z k R Q y b ml rt) {cn' sn' cap : Nat} {n : Int32} (hd : decode b pc = .ok (.newarray .boolean, 2)) (w1 : Jvm.Cond.arrayClass .boolean ∈ tables_1) (hn : ¬ n < 0) (hcap : n.toNatClampNeg ≤ cap) (hb8 : cap * 8 ≤ 536870912) (hc : cn + 1 = cn') (hs : sn + cap = sn') (hc' : cn' ≤ R.cells) (hs' : sn' ≤ R.slots) (hp : pc + 2 = pc')
    (g : ∀ a, Go Z k cn' sn' ((a, ArI Z .boolean (List.replicate n.toNatClampNeg 0)) :: M) pc' Ls (.ref a :: st)) : Go Z k cn sn M pc Ls (.int n :: st) := by
  obtain ⟨p, l, e, R', s, m, args, below, meth, c, Q'⟩ := k
  obtain ⟨hx, hZ, hby, -, hown, hnm, -, -, ⟨a0, hw⟩, rfl, -⟩ := H
  subst hp hc hs
  intro T w
  obtain ⟨locs, X, F, OO⟩ := w
  obtain ⟨T', h', cA, X', e', E, A, sg⟩ := newP X hx hZ (aty := .boolean) (hw _ w1) rfl (g := mkF m pc Ls (.int n :: st)) rfl (hb hby hd) rfl hn hcap hb8 hc' hs'
  have hB : ArI Z .boolean (List.replicate n.toNatClampNeg 0) (newA cA .boolean n) := ⟨A.2.1, A.2.2, by simp [newA, defaultValue], by simp; omega, fun x hx => by rw [List.eq_of_mem_replicate hx]; rfl⟩
  obtain ⟨t, o, hs, r⟩ := g _ T' ⟨_, X', F, e' ▸ OO.new E A.1 hB⟩
  exact ⟨t, o, sg _ hs, r⟩
theorem s_newarr_long (H : Ok Z k R Q y b ml rt) {cn' sn' cap : Nat} {n : Int32} (hd : decode b pc = .ok (.newarray .long, 2)) (w1 : Jvm.Cond.arrayClass .long ∈ tables_1) (hn : ¬ n < 0) (hcap : n.toNatClampNeg ≤ cap) (hb8 : cap * 8 ≤ 536870912) (hc : cn + 1 = cn') (hs : sn + cap = sn') (hc' : cn' ≤ R.cells) (hs' : sn' ≤ R.slots) (hp : pc + 2 = pc')
    (g : ∀ a, Go Z k cn' sn' ((a, ArL Z (List.replicate n.toNatClampNeg 0)) :: M) pc' Ls (.ref a :: st)) : Go Z k cn sn M pc Ls (.int n :: st) := by
  obtain ⟨p, l, e, R', s, m, args, below, meth, c, Q'⟩ := k
  obtain ⟨hx, hZ, hby, -, hown, hnm, -, -, ⟨a0, hw⟩, rfl, -⟩ := H
  subst hp hc hs
  intro T w
  obtain ⟨locs, X, F, OO⟩ := w
  obtain ⟨T', h', cA, X', e', E, A, sg⟩ := newP X hx hZ (aty := .long) (hw _ w1) rfl (g := mkF m pc Ls (.int n :: st)) rfl (hb hby hd) rfl hn hcap hb8 hc' hs'
  have hB : ArL Z (List.replicate n.toNatClampNeg 0) (newA cA .long n) := ⟨A.2.1, A.2.2, by simp [newA, defaultValue], by simp; omega⟩
  obtain ⟨t, o, hs, r⟩ := g _ T' ⟨_, X', F, e' ▸ OO.new E A.1 hB⟩
  exact ⟨t, o, sg _ hs, r⟩
/-! OWN KIT 3: contracts and calls -/
def MQ (Z : State) (rm : Room) (Q : Option Value → Hp → Prop) (U : State) (o : Outcome) (U' : State) : Prop := ∃ v L, o = .returned v ∧ (Fr Z.heap.size L ∧ ∃ M, Q v M ∧ Own Z U'.heap M) ∧ FrameEnd U o U' L rm.cells rm.slots
def Met (Z : State) (y : MethodName) (b : ByteArray) (ml : Nat) (rt : Option FieldType) (rm : Room) (as : List Value) (M : Hp) (Q : Option Value → Hp → Prop) : Prop :=
  ∀ (l : Launch) (h0 : Heap), Own Z h0 M → MetFree l y (head1 [Jvm.Cond.code y b ml rt] rm) (fun a U => a = as.toArray ∧ Z.Warmed39 U.vm ∧ U.heap = h0) (fun _ _ _ _ _ => True) (fun _ U o U' => ∃ v L, o = .returned v ∧ (Fr Z.heap.size L ∧ ∃ M, Q v M ∧ Own Z U'.heap M) ∧ FrameEnd U o U' L rm.cells rm.slots)
theorem met_of {ws : List Jvm.Cond} {as : List Value} {rm : Room} {h0 : Heap} (l : Launch) (hT : Tb Z) (hpl : plainFor y = true) (hef : ∀ m, entryFrame m as.toArray ml = mkF m 0 Ls []) (hO : Own Z h0 M) (body : ∀ k, Ok Z k rm Q y b ml rt → Go Z k 0 0 M 0 Ls []) :
    MetFree l y (head1 (Jvm.Cond.code y b ml rt :: ws) rm) (fun a U => a = as.toArray ∧ Z.Warmed39 U.vm ∧ U.heap = h0) (fun _ _ _ _ _ => True) (fun _ U o U' => ∃ v L, o = .returned v ∧ (Fr Z.heap.size L ∧ ∃ M, Q v M ∧ Own Z U'.heap M) ∧ FrameEnd U o U' L rm.cells rm.slots) := by
  refine MetFree.of_bodySF hpl hisR ?_
  intro p e s m args below meth c s₁ Bd hml0 hP hK
  obtain ⟨rfl, hZ, hh⟩ := hP
  have X0 : Stand p l e rm s m as.toArray below meth c s₁ [] 0 0 := Stand.of_body Bd
  have e0 : s₁.heap = h0 := by rw [← hh, Bd.state]; rfl
  obtain ⟨t, o, hs, r⟩ := body (p, l, e, rm, s, m, as.toArray, below, meth, c, Q) ⟨Bd.exec, hZ, Bd.bytes, hml0, findClass_of_methodNamed Bd.named, (name_of_methodNamed Bd.named Bd.method).1, Bd.returns, Bd.notSynchronized, hT, rfl, rfl⟩ s₁ ⟨[], X0, Fr.nil _, e0 ▸ hO⟩
  exact ⟨t, o, castTop (hef m) hs, r⟩
theorem Met.of {as : List Value} {rm : Room} (hT : Tb Z) (hpl : plainFor y = true) (hef : ∀ m, entryFrame m as.toArray ml = mkF m 0 Ls []) (body : ∀ k, Ok Z k rm Q y b ml rt → Go Z k 0 0 M 0 Ls []) : Met Z y b ml rt rm as M Q := fun l h0 hO => met_of l hT hpl hef hO body
theorem Met.mono {as : List Value} {rm : Room} {Q' : Option Value → Hp → Prop} (h : Met Z y b ml rt rm as M Q) (q : ∀ v M, Q v M → Q' v M) : Met Z y b ml rt rm as M Q' := fun l h0 hO p e ha hc hk s m args below hf happ hP hK => by
  obtain ⟨n, o, h1, h2, h3, v, L, h4, ⟨h5, M', h6, h7⟩, h8⟩ := h l h0 hO p e ha hc hk s m args below hf happ hP hK
  exact ⟨n, o, h1, h2, h3, v, L, h4, ⟨h5, M', q _ _ h6, h7⟩, h8⟩
theorem s_ret (H : Ok Z k R Q y b ml (some ty)) {i : Instr} {w : Value} (hd : decode b pc = .ok (i, 1)) (hn : narrow ty w = w)
    (hi : (i = .ireturn ∧ (ty = .int ∨ ty = .boolean ∨ ty = .byte ∨ ty = .char ∨ ty = .short) ∧ ∃ z, w = .int z) ∨ (i = .lreturn ∧ ty = .long ∧ ∃ z, w = .long z) ∨ (i = .dreturn ∧ ty = .double ∧ ∃ z, w = .double z) ∨ (i = .freturn ∧ ty = .float ∧ ∃ z, w = .float z) ∨ (i = .areturn ∧ ty.isReference = true ∧ w.isRef = true))
    (hc : cn ≤ R.cells) (hs : sn ≤ R.slots) (q : Q (some w) M) : Go Z k cn sn M pc Ls (w :: st) := by
  obtain ⟨p, l, e, R', s, m, args, below, meth, c, Q'⟩ := k
  obtain ⟨hx, hZ, hby, -, -, -, hret, hlk, -, rfl, rfl⟩ := H
  intro T w'
  obtain ⟨locs, X, F, O⟩ := w'
  obtain ⟨fs, hr, hrun, hended, hW, hsame⟩ := X.leave (v := some w) (fun h => by rw [hret] at h; cases h) hlk
  exact ⟨_, _, retOut X hx hret hn hi (hb hby hd) hr, hrun, hended, _, _, rfl, ⟨F, M, q, O⟩, ⟨_, rfl⟩, hW, hsame.mono hc hs⟩
theorem s_iret (H : Ok Z k R Q y b ml (some ty)) {z : Int32} (hd : decode b pc = .ok (.ireturn, 1)) (hn : narrow ty (.int z) = .int z) (ht : ty = .int ∨ ty = .boolean ∨ ty = .byte ∨ ty = .char ∨ ty = .short) (hc : cn ≤ R.cells) (hs : sn ≤ R.slots) (q : Q (some (.int z)) M) : Go Z k cn sn M pc Ls (.int z :: st) := s_ret H hd hn (Or.inl ⟨rfl, ht, z, rfl⟩) hc hs q
theorem s_lret (H : Ok Z k R Q y b ml (some .long)) {z : Int64} (hd : decode b pc = .ok (.lreturn, 1)) (hc : cn ≤ R.cells) (hs : sn ≤ R.slots) (q : Q (some (.long z)) M) : Go Z k cn sn M pc Ls (.long z :: st) := s_ret H hd rfl (Or.inr (Or.inl ⟨rfl, rfl, z, rfl⟩)) hc hs q
theorem s_aret (H : Ok Z k R Q y b ml (some ty)) {a : Addr} (hd : decode b pc = .ok (.areturn, 1)) (hn : narrow ty (.ref a) = .ref a) (ht : ty.isReference = true) (hc : cn ≤ R.cells) (hs : sn ≤ R.slots) (q : Q (some (.ref a)) M) : Go Z k cn sn M pc Ls (.ref a :: st) := s_ret H hd hn (Or.inr (Or.inr (Or.inr (Or.inr ⟨rfl, ht, rfl⟩)))) hc hs q
theorem s_vret (H : Ok Z k R Q y b ml none) (hd : decode b pc = .ok (.return_, 1)) (hc : cn ≤ R.cells) (hs : sn ≤ R.slots) (q : Q none M) : Go Z k cn sn M pc Ls [] := by
  obtain ⟨p, l, e, R', s, m, args, below, meth, c, Q'⟩ := k
  obtain ⟨hx, hZ, hby, -, -, -, hret, hlk, -, rfl, rfl⟩ := H
  intro T w'
  obtain ⟨locs, X, F, O⟩ := w'
  obtain ⟨fs, hr, hrun, hended, hW, hsame⟩ := X.leave (v := none) (fun _ => rfl) hlk
  exact ⟨_, _, X.returnOut hx hret (hb hby hd) hr, hrun, hended, _, _, rfl, ⟨F, M, q, O⟩, ⟨_, rfl⟩, hW, hsame.mono hc hs⟩
theorem s_objinit (H : Ok Z k R Q y b ml rt) {idx : Nat} {a : Addr} (hd : decode b pc = .ok (.invokespecial idx, 3)) (w1 : Jvm.Cond.methodLink y.cls idx Lib.objectInit ∈ tables_1) (w2 : Jvm.Cond.instanceMethod Lib.objectInit ∈ tables_1) (w3 : Jvm.Cond.code Lib.objectInit ⟨#[0xb1]⟩ 1 none ∈ tables_1) (hsz : Ls.size = ml) (hf : 1 ≤ R.frames) (hl : (st.map fun v => v.category).sum + 12 ≤ R.locals) (hp : pc + 3 = pc') (g : Go Z k cn sn M pc' Ls st) : Go Z k cn sn M pc Ls (.ref a :: st) := by
  obtain ⟨p, l, e, R', s, m, args, below, meth, c, Q'⟩ := k
  obtain ⟨hx, hZ, hby, hml, hown, hnm, -, -, ⟨a0, hw⟩, rfl, -⟩ := H
  subst hp
  intro T w
  obtain ⟨locs, X, F, OO⟩ := w
  obtain ⟨T', X', e', sg⟩ := initO X hx hZ hown (hw _ w1) (hw _ w2) (hw _ w3) rfl (g := mkF m pc Ls (.ref a :: st)) rfl (by rw [hml]; exact hsz) rfl (hb hby hd) hf (W := (st.map fun v => v.category).sum) (by show 2 * 0 + _ ≤ _; omega) hl
  obtain ⟨t, o, hs, r⟩ := g T' ⟨_, X', F, e' ▸ OO⟩
  exact ⟨t, o, sg _ hs, r⟩
theorem s_static (H : Ok Z k R Q y b ml rt) {idx cn' sn' : Nat} {y' : MethodName} {b' : ByteArray} {ml' : Nat} {rt' : Option FieldType} {rm : Room} {as rest : List Value} {Q' : Option Value → Hp → Prop} {sig : MethodDescriptor}
    (hM : Met Z y' b' ml' rt' rm as M Q') (hd : decode b pc = .ok (.invokestatic idx, 3)) (w1 : Jvm.Cond.methodLink y.cls idx y' ∈ tables_1) (w2 : Jvm.Cond.static y' ∈ tables_1) (w3 : Jvm.Cond.initialized y'.cls ∈ tables_1) (w4 : Jvm.Cond.code y' b' ml' rt' ∈ tables_1) (hy : y'.cls ≠ "java/lang/invoke/MethodHandle" ∧ y'.cls ≠ "java/lang/invoke/VarHandle")
    (hsig : parseMethodDescriptor y'.desc = some sig) (hlen : as.length = sig.parameters.length) (hst : st = as.reverse ++ rest) (hsz : Ls.size = ml) (hf : rm.frames + 1 ≤ R.frames) (hl : (rest.map fun v => v.category).sum + (ml' + 11) + rm.locals ≤ R.locals) (hc : cn + rm.cells = cn') (hs : sn + rm.slots = sn') (hc' : cn' ≤ R.cells) (hs' : sn' ≤ R.slots) (hp : pc + 3 = pc')
    (g : ∀ v M', Q' v M' → Go Z k cn' sn' M' pc' Ls (v.toList ++ rest)) : Go Z k cn sn M pc Ls st := by
  obtain ⟨p, l, e, R', s, m, args, below, meth, c, Q''⟩ := k
  obtain ⟨hx, hZ, hby, hml, hown, hnm, -, -, ⟨a0, hw⟩, rfl, -⟩ := H
  subst hp hc hs hst
  intro T w
  obtain ⟨locs, X, F, OO⟩ := w
  obtain ⟨v, _, ⟨T', L', k', n'⟩, -, X', ⟨Lc, ⟨hF, M', hQ, hO⟩, q1, q2, q3⟩, sg⟩ := Jvm.LawKit.callS X hx (y := y') hown (mvT hZ (hw _ w1)) (mvT hZ (hw _ w2)) (mvT hZ (hw _ w3)) (mvT hZ (hw _ w4)) hy (backOf (W := (rest.map fun v => v.category).sum) (Q := fun v h L => Fr Z.heap.size L ∧ ∃ M', Q' v M' ∧ Own Z h M') (hM l _ OO) hZ (hw _ w4) (hw _ w3) hf hl) (g := mkF m pc Ls (as.reverse ++ rest)) rfl (by rw [hml]; exact hsz) (argsL := as) (rest := rest) (lenOf (ps := sig.parameters) (r := sig.returnType) hsig hlen) rfl (by show 2 * 0 + _ ≤ _; omega) (hb hby hd) (fun _ _ => ⟨rfl, rfl, hc', hs'⟩)
  dsimp only [Pt.U, Pt.locs, Pt.cells, Pt.slots] at X' q1 q2 q3 sg hO
  subst q1 q2 q3
  obtain ⟨t, o, hs, r⟩ := g v M' hQ T' ⟨_, X', Fr.app F hF, hO⟩
  exact ⟨t, o, sg _ hs, r⟩
theorem s_init (H : Ok Z k R Q y b ml rt) {idx cn' sn' : Nat} {a : Addr} {y' : MethodName} {b' : ByteArray} {ml' : Nat} {rm : Room} {as rest : List Value} {Q' : Option Value → Hp → Prop} {sig : MethodDescriptor}
    (hM : Met Z y' b' ml' none rm (.ref a :: as) M Q') (hd : decode b pc = .ok (.invokespecial idx, 3)) (hy1 : y'.name = "<init>") (w1 : Jvm.Cond.methodLink y.cls idx y' ∈ tables_1) (w2 : Jvm.Cond.instanceMethod y' ∈ tables_1) (w3 : Jvm.Cond.initialized y'.cls ∈ tables_1) (w4 : Jvm.Cond.code y' b' ml' none ∈ tables_1) (hy : y'.cls ≠ "java/lang/invoke/MethodHandle" ∧ y'.cls ≠ "java/lang/invoke/VarHandle")
    (hsig : parseMethodDescriptor y'.desc = some sig) (hlen : as.length = sig.parameters.length) (hst : st = as.reverse ++ .ref a :: rest) (hsz : Ls.size = ml) (hf : rm.frames + 1 ≤ R.frames) (hl : (rest.map fun v => v.category).sum + (ml' + 11) + rm.locals ≤ R.locals) (hc : cn + rm.cells = cn') (hs : sn + rm.slots = sn') (hc' : cn' ≤ R.cells) (hs' : sn' ≤ R.slots) (hp : pc + 3 = pc')
    (g : ∀ v M', Q' v M' → Go Z k cn' sn' M' pc' Ls (v.toList ++ rest)) : Go Z k cn sn M pc Ls st := by
  obtain ⟨p, l, e, R', s, m, args, below, meth, c, Q''⟩ := k
  obtain ⟨hx, hZ, hby, hml, hown, hnm, -, -, ⟨a0, hw⟩, rfl, -⟩ := H
  subst hp hc hs hst
  intro T w
  obtain ⟨locs, X, F, OO⟩ := w
  obtain ⟨v, _, ⟨T', L', k', n'⟩, -, X', ⟨Lc, ⟨hF, M', hQ, hO⟩, q1, q2, q3⟩, sg⟩ := X.specialBack hx (y := y') hy1 hown (mvT hZ (hw _ w1)) (mvT hZ (hw _ w2)) (mvT hZ (hw _ w4)) hy (backOf (W := (rest.map fun v => v.category).sum) (Q := fun v h L => Fr Z.heap.size L ∧ ∃ M', Q' v M' ∧ Own Z h M') (hM l _ OO) hZ (hw _ w4) (hw _ w3) hf hl) (g := mkF m pc Ls (as.reverse ++ .ref a :: rest)) rfl (by rw [hml]; exact hsz) (Steps.refl _) (a := a) (argsL := as) (rest := rest) (lenOf (ps := sig.parameters) (r := sig.returnType) hsig hlen) rfl (by show 2 * 0 + _ ≤ _; omega) (hb hby hd) (fun _ _ => ⟨rfl, rfl, hc', hs'⟩)
  dsimp only [Pt.U, Pt.locs, Pt.cells, Pt.slots] at X' q1 q2 q3 sg hO
  subst q1 q2 q3
  obtain ⟨t, o, hs, r⟩ := g v M' hQ T' ⟨_, X', Fr.app F hF, hO⟩
  exact ⟨t, o, sg.trans hs, r⟩
theorem s_virtual (H : Ok Z k R Q y b ml rt) {i idx cn' sn' : Nat} {a : Addr} {C : String} {fs : List Fd} {y' : MethodName} {b' : ByteArray} {ml' : Nat} {rt' : Option FieldType} {rm : Room} {as rest : List Value} {Q' : Option Value → Hp → Prop} {sig : MethodDescriptor}
    (hM : Met Z y' b' ml' rt' rm (.ref a :: as) M Q') (hd : decode b pc = .ok (.invokevirtual idx, 3)) (hi : M[i]? = some (a, Obj Z C fs)) (w1 : Jvm.Cond.methodLink y.cls idx y' ∈ tables_1) (w2 : Jvm.Cond.declares y' ∈ tables_1) (w5 : Jvm.Cond.selects C y' y' ∈ tables_1) (w6 : Jvm.Cond.instanceMethod y' ∈ tables_1) (w3 : Jvm.Cond.initialized y'.cls ∈ tables_1) (w4 : Jvm.Cond.code y' b' ml' rt' ∈ tables_1) (hy : y'.cls ≠ "java/lang/invoke/MethodHandle" ∧ y'.cls ≠ "java/lang/invoke/VarHandle")
    (hsig : parseMethodDescriptor y'.desc = some sig) (hlen : as.length = sig.parameters.length) (hst : st = as.reverse ++ .ref a :: rest) (hsz : Ls.size = ml) (hf : rm.frames + 1 ≤ R.frames) (hl : (rest.map fun v => v.category).sum + (ml' + 11) + rm.locals ≤ R.locals) (hc : cn + rm.cells = cn') (hs : sn + rm.slots = sn') (hc' : cn' ≤ R.cells) (hs' : sn' ≤ R.slots) (hp : pc + 3 = pc')
    (g : ∀ v M', Q' v M' → Go Z k cn' sn' M' pc' Ls (v.toList ++ rest)) : Go Z k cn sn M pc Ls st := by
  obtain ⟨p, l, e, R', s, m, args, below, meth, c, Q''⟩ := k
  obtain ⟨hx, hZ, hby, hml, hown, hnm, -, -, ⟨a0, hw⟩, rfl, -⟩ := H
  subst hp hc hs hst
  intro T w
  obtain ⟨locs, X, F, OO⟩ := w
  obtain ⟨-, cl, c1, c2⟩ := OO.2.1 i _ hi
  obtain ⟨cq, kq, qa, qb, qc⟩ := isOf hZ rfl (c2.1 _ _ c1).1
  obtain ⟨v, _, ⟨T', L', k', n'⟩, -, X', ⟨Lc, ⟨hF, M', hQ, hO⟩, q1, q2, q3⟩, sg⟩ := X.virtualBack hx (y := y') (z := y') hown (mvT hZ (hw _ w1)) (mvT hZ (hw _ w2)) (notFace_of_selects (args := #[]) (mvT hZ (hw _ w5))) (mvT hZ (hw _ w5)) (mvT hZ (hw _ w6)) hy (backOf (W := (rest.map fun v => v.category).sum) (Q := fun v h L => Fr Z.heap.size L ∧ ∃ M', Q' v M' ∧ Own Z h M') (hM l _ OO) hZ (hw _ w4) (hw _ w3) hf hl) qa qc (g := mkF m pc Ls (as.reverse ++ .ref a :: rest)) rfl (by rw [hml]; exact hsz) (Steps.refl _) (argsL := as) (rest := rest) (lenOf (ps := sig.parameters) (r := sig.returnType) hsig hlen) rfl (by show 2 * 0 + _ ≤ _; omega) (hb hby hd) (fun _ _ => ⟨rfl, rfl, hc', hs'⟩)
  dsimp only [Pt.U, Pt.locs, Pt.cells, Pt.slots] at X' q1 q2 q3 sg hO
  subst q1 q2 q3
  obtain ⟨t, o, hs, r⟩ := g v M' hQ T' ⟨_, X', Fr.app F hF, hO⟩
  exact ⟨t, o, sg.trans hs, r⟩
theorem s_priv (H : Ok Z k R Q y b ml rt) {i idx cn' sn' : Nat} {a : Addr} {C : String} {fs : List Fd} {y' y0 : MethodName} {b' : ByteArray} {ml' : Nat} {rt' : Option FieldType} {rm : Room} {as rest : List Value} {Q' : Option Value → Hp → Prop} {sig : MethodDescriptor}
    (hM : Met Z y' b' ml' rt' rm (.ref a :: as) M Q') (hd : decode b pc = .ok (.invokevirtual idx, 3)) (hi : M[i]? = some (a, Obj Z C fs)) (w1 : Jvm.Cond.methodLink y.cls idx y' ∈ tables_1) (w2 : Jvm.Cond.privateMethod y' ∈ tables_1) (w5 : Jvm.Cond.selects y'.cls y0 y0 ∈ tables_1) (h0 : y0.cls = y'.cls) (w6 : Jvm.Cond.instanceMethod y' ∈ tables_1) (w3 : Jvm.Cond.initialized y'.cls ∈ tables_1) (w4 : Jvm.Cond.code y' b' ml' rt' ∈ tables_1) (hy : y'.cls ≠ "java/lang/invoke/MethodHandle" ∧ y'.cls ≠ "java/lang/invoke/VarHandle")
    (hsig : parseMethodDescriptor y'.desc = some sig) (hlen : as.length = sig.parameters.length) (hst : st = as.reverse ++ .ref a :: rest) (hsz : Ls.size = ml) (hf : rm.frames + 1 ≤ R.frames) (hl : (rest.map fun v => v.category).sum + (ml' + 11) + rm.locals ≤ R.locals) (hc : cn + rm.cells = cn') (hs : sn + rm.slots = sn') (hc' : cn' ≤ R.cells) (hs' : sn' ≤ R.slots) (hp : pc + 3 = pc')
    (g : ∀ v M', Q' v M' → Go Z k cn' sn' M' pc' Ls (v.toList ++ rest)) : Go Z k cn sn M pc Ls st := by
  obtain ⟨p, l, e, R', s, m, args, below, meth, c, Q''⟩ := k
  obtain ⟨hx, hZ, hby, hml, hown, hnm, -, -, ⟨a0, hw⟩, rfl, -⟩ := H
  subst hp hc hs hst
  intro T w
  obtain ⟨locs, X, F, OO⟩ := w
  obtain ⟨-, cl, c1, c2⟩ := OO.2.1 i _ hi
  obtain ⟨cl', d1, d2⟩ := (c2.1 _ _ c1).1.cell
  have hpriv : s.PrivateAt y' := Cond.privateMethod_at (mvP hZ (hw _ w2) (args := #[]))
  obtain ⟨mk, mM, hn, hm, hst, hab⟩ := Cond.instanceMethod_spec (mvT (args := #[]) hZ (hw _ w6))
  obtain ⟨c3, r3, m3, -, -, n3, -, kP, hk, hkI⟩ := Cond.selects_spec (mvT (args := #[]) hZ (hw _ w5))
  have e3 : m3.cls = mk.cls := by
    have u1 := findClass_of_methodNamed n3
    have u2 := findClass_of_methodNamed hn
    rw [h0, u2] at u1; exact (Option.some.inj u1).symm
  rw [e3] at hk
  obtain ⟨mM', cM, hm2, -, -, -, -, -, -, hsg⟩ := Cond.code_spec hn (mvT (args := #[]) hZ (hw _ w4))
  cases hm.symm.trans hm2
  obtain ⟨vm₁, X₁, st₁⟩ := X.invokevirtual hx hown (mvT hZ (hw _ w1)) hn hm hst hk hkI hy (a := a) d1 d2 (selectMethod_private hm (hpriv mk _ hn hm)) hm hab hk hkI (g := mkF m pc Ls (as.reverse ++ .ref a :: rest)) rfl (argsL := as) (rest := rest) (lenOf (ps := sig.parameters) (r := sig.returnType) hsig hlen _ hsg) rfl (hb hby hd)
  have hK := backOf (l := l) (p := p) (e := e) (below := below) (R := R') (args := args) (len := 3) (W := (rest.map fun v => v.category).sum) (Q := fun v h L => Fr Z.heap.size L ∧ ∃ M', Q' v M' ∧ Own Z h M') (hM l _ OO) hZ (hw _ w4) (hw _ w3) hf hl
  obtain ⟨v, ⟨T', L', k', n'⟩, X', ⟨Lc, ⟨hF, M', hQ, hO⟩, q1, q2, q3⟩, sg⟩ := hK m meth c ⟨T.setVm vm₁, locs, cn, sn⟩ (mkF m pc Ls rest) (.invokevirtual idx) mk (.ref a :: as).toArray X₁ rfl (by rw [hml]; exact hsz) (hb hby hd) (by show 2 * 0 + (rest.map fun v => v.category).sum ≤ _; omega) (X₁.named hn) ⟨rfl, rfl, hc', hs'⟩
  dsimp only [Pt.U, Pt.locs, Pt.cells, Pt.slots] at X' q1 q2 q3 sg hO
  subst q1 q2 q3
  obtain ⟨t, o, hs, r⟩ := g v M' hQ T' ⟨_, X', Fr.app F hF, hO⟩
  exact ⟨t, o, st₁ _ (fun acts => by rw [doInvoke_state]; exact sg.trans hs), r⟩
end Kit
theorem own_nat {m : Nat} (h : m < 2147483648) : m.toInt32.toNatClampNeg = m ∧ ¬ m.toInt32 < 0 ∧ m.toInt32.toInt = m := by
  have e : m.toInt32.toInt = m := Int32.toInt_ofNat_small (by omega)
  refine ⟨?_, ?_, e⟩
  · show m.toInt32.toInt.toNat = m
    rw [e]; rfl
  · rw [Int32.lt_iff_toInt_lt, e, show (0 : Int32).toInt = 0 from by decide]; omega
theorem own_lt {m n : Nat} (h : m < 2147483648) (h' : n < 2147483648) : m.toInt32 < n.toInt32 ↔ m < n := by rw [Int32.lt_iff_toInt_lt, (own_nat h).2.2, (own_nat h').2.2]; omega
theorem own_le {m n : Nat} (h : m < 2147483648) (h' : n < 2147483648) : m.toInt32 ≤ n.toInt32 ↔ m ≤ n := by rw [Int32.le_iff_toInt_le, (own_nat h).2.2, (own_nat h').2.2]; omega
theorem own_succ (m : Nat) : m.toInt32 + 1 = (m + 1).toInt32 := by
  show Int32.ofNat m + Int32.ofNat 1 = Int32.ofNat (m + 1)
  rw [← Int32.ofNat_add]
theorem allN {α : Type} {P : α → Prop} : ∀ x ∈ ([] : List α), P x := fun _ q => nomatch q
theorem allC {α : Type} {P : α → Prop} {z : α} {L : List α} (q : P z) (r : ∀ x ∈ L, P x) : ∀ x ∈ z :: L, P x := fun x h => (List.mem_cons.mp h).elim (fun u => u ▸ q) (r x)
/-! OWN KIT 4: System.arraycopy -/
theorem own_us {α : Type} {f : α → Value} {vs : List α} {d : α} {s n : Nat} (h : s + n ≤ vs.length) : ((List.range n).map fun i => (vs.map f).getD (s + i) (f d)) = (((vs.drop s).take n).map f) := by
  apply List.ext_getElem?
  intro i
  simp only [List.getElem?_map, List.getElem?_take, List.getElem?_drop]
  rcases Nat.lt_or_ge i n with lt | ge
  · rw [List.getElem?_range lt, if_pos lt, List.getElem?_eq_getElem (by omega)]
    simp [List.getD_eq_getElem?_getD, List.getElem?_eq_getElem (show s + i < vs.length from by omega)]
  · rw [List.getElem?_eq_none (by simpa using ge), if_neg (by omega)]; rfl
theorem own_back {α : Type} {f : α → Value} {d : α} {vs : List α} {c : Cell} {n : Int32} (hs : c.slots.size = n.toNatClampNeg) (hn : n.toNatClampNeg = vs.length) (hH : Has c (vs.map f) (f d)) : c.slots = (vs.map f).toArray := by
  apply Array.ext_getElem?
  intro i
  rcases Nat.lt_or_ge i c.slots.size with lt | ge
  · rw [hH i lt]
    have : i < vs.length := by omega
    simp [List.getD_eq_getElem?_getD, List.getElem?_eq_getElem this]
  · rw [Array.getElem?_eq_none ge]
    symm
    apply Array.getElem?_eq_none
    simp; omega
theorem arv_L {Z : State} {vs : List Int64} {c : Cell} {h : Heap} {a : Addr} (B : ArL Z vs c) (hc : h[a]? = some c) : Arv Z h a c.cls .long vs.length.toInt32 (vs.map Value.long) (Value.long 0) := by
  have hl : vs.length < 2147483648 := B.2.2.2
  refine ⟨c, B.arr hc, rfl, by rw [B.size, (own_nat hl).1], (own_nat hl).2.1, fun i hi => ?_, fun i hi => ?_⟩
  · rw [B.size] at hi
    rw [B.2.2.1]
    simp [List.getD_eq_getElem?_getD, List.getElem?_eq_getElem hi]
  · rw [B.size] at hi
    rw [List.getD_eq_getElem?_getD, List.getElem?_map, List.getElem?_eq_getElem hi]
    rfl
theorem s_acopy_L {Z : State} {k : Cx} {R : Room} {Q : Option Value → Hp → Prop} {y : MethodName} {b : ByteArray} {ml : Nat} {rt : Option FieldType} {cn sn : Nat} {M : Hp} {pc pc' : Nat} {Ls : Array Slot} {st : List Value} (H : Ok Z k R Q y b ml rt) {i j idx : Nat} {a a' : Addr} {vs vd : List Int64} {sp dp nn : Int32} (s d n : Nat) (hd : decode b pc = .ok (.invokestatic idx, 3)) (w1 : Jvm.Cond.methodLink y.cls idx Jvm.Stand.acN ∈ tables_1) (w2 : Jvm.Cond.native Jvm.Stand.acN ∈ tables_1) (w3 : Jvm.Cond.static Jvm.Stand.acN ∈ tables_1) (w4 : Jvm.Cond.initialized "java/lang/System" ∈ tables_1)
    (hi : M[i]? = some (a, ArL Z vs)) (hj : M[j]? = some (a', ArL Z vd)) (es : sp = s.toInt32) (ed : dp = d.toInt32) (en : nn = n.toInt32) (h1 : s + n ≤ vs.length) (h2 : d + n ≤ vd.length) (hsz : Ls.size = ml) (hf : 1 ≤ R.frames) (hlo : (st.map fun v => v.category).sum + (nativeFrameWords "java/lang/System" "arraycopy" 5 + 11) ≤ R.locals) (hp : pc + 3 = pc')
    (g : Go Z k cn sn (M.set j (a', ArL Z (vd.take d ++ (vs.drop s).take n ++ vd.drop (d + n)))) pc' Ls st) : Go Z k cn sn M pc Ls (.int nn :: .int dp :: .ref a' :: .int sp :: .ref a :: st) := by
  obtain ⟨p, l, e, R', s', m, args, below, meth, c, Q'⟩ := k
  obtain ⟨hx, hZ, hby, hml, hown, -, -, -, ⟨a0, hw⟩, rfl, -⟩ := H
  subst hp es ed en
  intro T w
  obtain ⟨locs, X, F, O⟩ := w
  obtain ⟨q0, cs, q1, q2⟩ := O.2.1 i _ hi
  obtain ⟨p0, cd, p1, p2⟩ := O.2.1 j _ hj
  have ls : vs.length < 2147483648 := q2.2.2.2
  have ld : vd.length < 2147483648 := p2.2.2.2
  obtain ⟨T', h', L, X', e', F', K, B, sg⟩ := cpA X hx hZ hown (hw _ w1) (hw _ w2) (hw _ w3) (hw _ w4) rfl (arv_L q2 q1) (arv_L p2 p1) (Or.inl ⟨rfl, rfl⟩) (sp := s.toInt32) (dp := d.toInt32) (nn := n.toInt32) (own_nat (by omega)).2.1 (own_nat (by omega)).2.1 (own_nat (by omega)).2.1 (by rw [(own_nat (by omega)).1, (own_nat (by omega)).1, (own_nat ls).1]; exact h1) (by rw [(own_nat (by omega)).1, (own_nat (by omega)).1, (own_nat ld).1]; exact h2) rfl (by rw [(own_nat (by omega)).1, (own_nat (by omega)).1, List.length_map]; exact h2) F p0 (g := mkF m pc Ls (.int n.toInt32 :: .int d.toInt32 :: .ref a' :: .int s.toInt32 :: .ref a :: st)) rfl (by rw [hml]; exact hsz) rfl (hb hby hd) hf (W := (st.map fun v => v.category).sum) (by show 2 * 0 + _ ≤ _; omega) hlo
  rw [(own_nat (show n < 2147483648 by omega)).1, (own_nat (show d < 2147483648 by omega)).1, (own_nat (show s < 2147483648 by omega)).1, own_us h1] at B
  have eL : (vd.map Value.long).take d ++ ((vs.drop s).take n).map Value.long ++ (vd.map Value.long).drop (d + n) = (vd.take d ++ (vs.drop s).take n ++ vd.drop (d + n)).map Value.long := by simp [List.map_append, List.map_take, List.map_drop]
  rw [eL] at B
  have len : (vd.take d ++ (vs.drop s).take n ++ vd.drop (d + n)).length = vd.length := by simp; omega
  obtain ⟨c', A', k1, k2, k3, k4, k5⟩ := B
  have hc' : ArL Z (vd.take d ++ (vs.drop s).take n ++ vd.drop (d + n)) c' := by
    refine ⟨A'.2.1, A'.2.2, own_back k2 (by rw [(own_nat ld).1, len]) k4, by rw [len]; exact ld⟩
  obtain ⟨t, o, hs, r⟩ := g T' ⟨_, X', F', e' ▸ O.ch hj K.1 (fun x c hx ne => K.2.1 x c hx (by simpa using ne)) ⟨c', A'.1, hc'⟩⟩
  exact ⟨t, o, sg _ hs, r⟩
theorem arv_I {Z : State} {ty : FieldType} {vs : List Int32} {c : Cell} {h : Heap} {a : Addr} (B : ArI Z ty vs c) (hc : h[a]? = some c) : Arv Z h a c.cls ty vs.length.toInt32 (vs.map Value.int) (Value.int 0) := by
  have hl : vs.length < 2147483648 := B.2.2.2.1
  refine ⟨c, B.arr hc, rfl, by rw [B.size, (own_nat hl).1], (own_nat hl).2.1, fun i hi => ?_, fun i hi => ?_⟩
  · rw [B.size] at hi
    rw [B.2.2.1]
    simp [List.getD_eq_getElem?_getD, List.getElem?_eq_getElem hi]
  · rw [B.size] at hi
    rw [List.getD_eq_getElem?_getD, List.getElem?_map, List.getElem?_eq_getElem hi]
    exact B.2.2.2.2 _ (List.getElem_mem hi)
theorem s_acopy_I {Z : State} {k : Cx} {R : Room} {Q : Option Value → Hp → Prop} {y : MethodName} {b : ByteArray} {ml : Nat} {rt : Option FieldType} {cn sn : Nat} {M : Hp} {pc pc' : Nat} {Ls : Array Slot} {st : List Value} (H : Ok Z k R Q y b ml rt) {ty : FieldType} {i j idx : Nat} {a a' : Addr} {vs vd : List Int32} {sp dp nn : Int32} (s d n : Nat) (hd : decode b pc = .ok (.invokestatic idx, 3)) (w1 : Jvm.Cond.methodLink y.cls idx Jvm.Stand.acN ∈ tables_1) (w2 : Jvm.Cond.native Jvm.Stand.acN ∈ tables_1) (w3 : Jvm.Cond.static Jvm.Stand.acN ∈ tables_1) (w4 : Jvm.Cond.initialized "java/lang/System" ∈ tables_1)
    (hi : M[i]? = some (a, ArI Z ty vs)) (hj : M[j]? = some (a', ArI Z ty vd)) (hrk : refKind ty = false) (es : sp = s.toInt32) (ed : dp = d.toInt32) (en : nn = n.toInt32) (h1 : s + n ≤ vs.length) (h2 : d + n ≤ vd.length) (hsz : Ls.size = ml) (hf : 1 ≤ R.frames) (hlo : (st.map fun v => v.category).sum + (nativeFrameWords "java/lang/System" "arraycopy" 5 + 11) ≤ R.locals) (hp : pc + 3 = pc')
    (g : Go Z k cn sn (M.set j (a', ArI Z ty (vd.take d ++ (vs.drop s).take n ++ vd.drop (d + n)))) pc' Ls st) : Go Z k cn sn M pc Ls (.int nn :: .int dp :: .ref a' :: .int sp :: .ref a :: st) := by
  obtain ⟨p, l, e, R', s', m, args, below, meth, c, Q'⟩ := k
  obtain ⟨hx, hZ, hby, hml, hown, -, -, -, ⟨a0, hw⟩, rfl, -⟩ := H
  subst hp es ed en
  intro T w
  obtain ⟨locs, X, F, O⟩ := w
  obtain ⟨q0, cs, q1, q2⟩ := O.2.1 i _ hi
  obtain ⟨p0, cd, p1, p2⟩ := O.2.1 j _ hj
  have ls : vs.length < 2147483648 := q2.2.2.2.1
  have ld : vd.length < 2147483648 := p2.2.2.2.1
  obtain ⟨T', h', L, X', e', F', K, B, sg⟩ := cpA X hx hZ hown (hw _ w1) (hw _ w2) (hw _ w3) (hw _ w4) rfl (arv_I q2 q1) (arv_I p2 p1) (Or.inl ⟨rfl, hrk⟩) (sp := s.toInt32) (dp := d.toInt32) (nn := n.toInt32) (own_nat (by omega)).2.1 (own_nat (by omega)).2.1 (own_nat (by omega)).2.1 (by rw [(own_nat (by omega)).1, (own_nat (by omega)).1, (own_nat ls).1]; exact h1) (by rw [(own_nat (by omega)).1, (own_nat (by omega)).1, (own_nat ld).1]; exact h2) rfl (by rw [(own_nat (by omega)).1, (own_nat (by omega)).1, List.length_map]; exact h2) F p0 (g := mkF m pc Ls (.int n.toInt32 :: .int d.toInt32 :: .ref a' :: .int s.toInt32 :: .ref a :: st)) rfl (by rw [hml]; exact hsz) rfl (hb hby hd) hf (W := (st.map fun v => v.category).sum) (by show 2 * 0 + _ ≤ _; omega) hlo
  rw [(own_nat (show n < 2147483648 by omega)).1, (own_nat (show d < 2147483648 by omega)).1, (own_nat (show s < 2147483648 by omega)).1, own_us h1] at B
  have eL : (vd.map Value.int).take d ++ ((vs.drop s).take n).map Value.int ++ (vd.map Value.int).drop (d + n) = (vd.take d ++ (vs.drop s).take n ++ vd.drop (d + n)).map Value.int := by simp [List.map_append, List.map_take, List.map_drop]
  rw [eL] at B
  have len : (vd.take d ++ (vs.drop s).take n ++ vd.drop (d + n)).length = vd.length := by simp; omega
  obtain ⟨c', A', k1, k2, k3, k4, k5⟩ := B
  have hc' : ArI Z ty (vd.take d ++ (vs.drop s).take n ++ vd.drop (d + n)) c' := by
    refine ⟨A'.2.1, A'.2.2, own_back k2 (by rw [(own_nat ld).1, len]) k4, by rw [len]; exact ld, fun x hx => ?_⟩
    simp only [List.mem_append] at hx
    rcases hx with (hx | hx) | hx
    · exact p2.2.2.2.2 x (List.mem_of_mem_take hx)
    · exact q2.2.2.2.2 x (List.mem_of_mem_drop (List.mem_of_mem_take hx))
    · exact p2.2.2.2.2 x (List.mem_of_mem_drop hx)
  obtain ⟨t, o, hs, r⟩ := g T' ⟨_, X', F', e' ▸ O.ch hj K.1 (fun x c hx ne => K.2.1 x c hx (by simpa using ne)) ⟨c', A'.1, hc'⟩⟩
  exact ⟨t, o, sg _ hs, r⟩
abbrev y_1 : MethodName := ⟨"com/example/quintet/quintet/EapPacketBytesPinLaw", "makeData", "(IBBB)[B"⟩
theorem d1_0 : decode method_3_code 0 = .ok (.iload_n 0, 1) := by decide +kernel
theorem d1_1 : decode method_3_code 1 = .ok (.ifCond .ne 7, 3) := by decide +kernel
theorem d1_4 : decode method_3_code 4 = .ok (.iconst 0, 1) := by decide +kernel
theorem d1_5 : decode method_3_code 5 = .ok (.newarray .byte, 2) := by decide +kernel
theorem d1_7 : decode method_3_code 7 = .ok (.areturn, 1) := by decide +kernel
theorem d1_8 : decode method_3_code 8 = .ok (.iload_n 0, 1) := by decide +kernel
theorem d1_9 : decode method_3_code 9 = .ok (.iconst 1, 1) := by decide +kernel
theorem d1_10 : decode method_3_code 10 = .ok (.if_icmp .ne 11, 3) := by decide +kernel
theorem d1_13 : decode method_3_code 13 = .ok (.iconst 1, 1) := by decide +kernel
theorem d1_14 : decode method_3_code 14 = .ok (.newarray .byte, 2) := by decide +kernel
theorem d1_16 : decode method_3_code 16 = .ok (.dup, 1) := by decide +kernel
theorem d1_17 : decode method_3_code 17 = .ok (.iconst 0, 1) := by decide +kernel
theorem d1_18 : decode method_3_code 18 = .ok (.iload_n 1, 1) := by decide +kernel
theorem d1_19 : decode method_3_code 19 = .ok (.bastore, 1) := by decide +kernel
theorem d1_20 : decode method_3_code 20 = .ok (.areturn, 1) := by decide +kernel
theorem d1_21 : decode method_3_code 21 = .ok (.iload_n 0, 1) := by decide +kernel
theorem d1_22 : decode method_3_code 22 = .ok (.iconst 2, 1) := by decide +kernel
theorem d1_23 : decode method_3_code 23 = .ok (.if_icmp .ne 15, 3) := by decide +kernel
theorem d1_26 : decode method_3_code 26 = .ok (.iconst 2, 1) := by decide +kernel
theorem d1_27 : decode method_3_code 27 = .ok (.newarray .byte, 2) := by decide +kernel
theorem d1_29 : decode method_3_code 29 = .ok (.dup, 1) := by decide +kernel
theorem d1_30 : decode method_3_code 30 = .ok (.iconst 0, 1) := by decide +kernel
theorem d1_31 : decode method_3_code 31 = .ok (.iload_n 1, 1) := by decide +kernel
theorem d1_32 : decode method_3_code 32 = .ok (.bastore, 1) := by decide +kernel
theorem d1_33 : decode method_3_code 33 = .ok (.dup, 1) := by decide +kernel
theorem d1_34 : decode method_3_code 34 = .ok (.iconst 1, 1) := by decide +kernel
theorem d1_35 : decode method_3_code 35 = .ok (.iload_n 2, 1) := by decide +kernel
theorem d1_36 : decode method_3_code 36 = .ok (.bastore, 1) := by decide +kernel
theorem d1_37 : decode method_3_code 37 = .ok (.areturn, 1) := by decide +kernel
theorem d1_38 : decode method_3_code 38 = .ok (.iload_n 0, 1) := by decide +kernel
theorem d1_39 : decode method_3_code 39 = .ok (.iconst 3, 1) := by decide +kernel
theorem d1_40 : decode method_3_code 40 = .ok (.if_icmp .ne 19, 3) := by decide +kernel
theorem d1_43 : decode method_3_code 43 = .ok (.iconst 3, 1) := by decide +kernel
theorem d1_44 : decode method_3_code 44 = .ok (.newarray .byte, 2) := by decide +kernel
theorem d1_46 : decode method_3_code 46 = .ok (.dup, 1) := by decide +kernel
theorem d1_47 : decode method_3_code 47 = .ok (.iconst 0, 1) := by decide +kernel
theorem d1_48 : decode method_3_code 48 = .ok (.iload_n 1, 1) := by decide +kernel
theorem d1_49 : decode method_3_code 49 = .ok (.bastore, 1) := by decide +kernel
theorem d1_50 : decode method_3_code 50 = .ok (.dup, 1) := by decide +kernel
theorem d1_51 : decode method_3_code 51 = .ok (.iconst 1, 1) := by decide +kernel
theorem d1_52 : decode method_3_code 52 = .ok (.iload_n 2, 1) := by decide +kernel
theorem d1_53 : decode method_3_code 53 = .ok (.bastore, 1) := by decide +kernel
theorem d1_54 : decode method_3_code 54 = .ok (.dup, 1) := by decide +kernel
theorem d1_55 : decode method_3_code 55 = .ok (.iconst 2, 1) := by decide +kernel
theorem d1_56 : decode method_3_code 56 = .ok (.iload_n 3, 1) := by decide +kernel
theorem d1_57 : decode method_3_code 57 = .ok (.bastore, 1) := by decide +kernel
theorem d1_58 : decode method_3_code 58 = .ok (.areturn, 1) := by decide +kernel
theorem d1_59 : decode method_3_code 59 = .ok (.iload_n 0, 1) := by decide +kernel
theorem d1_60 : decode method_3_code 60 = .ok (.bipush 7, 2) := by decide +kernel
theorem d1_62 : decode method_3_code 62 = .ok (.if_icmp .ne 23, 3) := by decide +kernel
theorem d1_65 : decode method_3_code 65 = .ok (.iconst 4, 1) := by decide +kernel
theorem d1_66 : decode method_3_code 66 = .ok (.newarray .byte, 2) := by decide +kernel
theorem d1_68 : decode method_3_code 68 = .ok (.dup, 1) := by decide +kernel
theorem d1_69 : decode method_3_code 69 = .ok (.iconst 0, 1) := by decide +kernel
theorem d1_70 : decode method_3_code 70 = .ok (.iload_n 1, 1) := by decide +kernel
theorem d1_71 : decode method_3_code 71 = .ok (.bastore, 1) := by decide +kernel
theorem d1_72 : decode method_3_code 72 = .ok (.dup, 1) := by decide +kernel
theorem d1_73 : decode method_3_code 73 = .ok (.iconst 1, 1) := by decide +kernel
theorem d1_74 : decode method_3_code 74 = .ok (.iload_n 2, 1) := by decide +kernel
theorem d1_75 : decode method_3_code 75 = .ok (.bastore, 1) := by decide +kernel
theorem d1_76 : decode method_3_code 76 = .ok (.dup, 1) := by decide +kernel
theorem d1_77 : decode method_3_code 77 = .ok (.iconst 2, 1) := by decide +kernel
theorem d1_78 : decode method_3_code 78 = .ok (.iload_n 3, 1) := by decide +kernel
theorem d1_79 : decode method_3_code 79 = .ok (.bastore, 1) := by decide +kernel
theorem d1_80 : decode method_3_code 80 = .ok (.dup, 1) := by decide +kernel
theorem d1_81 : decode method_3_code 81 = .ok (.iconst 3, 1) := by decide +kernel
theorem d1_82 : decode method_3_code 82 = .ok (.iload_n 2, 1) := by decide +kernel
theorem d1_83 : decode method_3_code 83 = .ok (.bastore, 1) := by decide +kernel
theorem d1_84 : decode method_3_code 84 = .ok (.areturn, 1) := by decide +kernel
theorem d1_85 : decode method_3_code 85 = .ok (.iload_n 0, 1) := by decide +kernel
theorem d1_86 : decode method_3_code 86 = .ok (.iconst 4, 1) := by decide +kernel
theorem d1_87 : decode method_3_code 87 = .ok (.if_icmp .ne 13, 3) := by decide +kernel
theorem d1_90 : decode method_3_code 90 = .ok (.sipush 250, 3) := by decide +kernel
theorem d1_93 : decode method_3_code 93 = .ok (.newarray .byte, 2) := by decide +kernel
theorem d1_95 : decode method_3_code 95 = .ok (.astore 4, 2) := by decide +kernel
theorem d1_97 : decode method_3_code 97 = .ok (.goto 25, 3) := by decide +kernel
theorem d1_100 : decode method_3_code 100 = .ok (.iload_n 0, 1) := by decide +kernel
theorem d1_101 : decode method_3_code 101 = .ok (.iconst 5, 1) := by decide +kernel
theorem d1_102 : decode method_3_code 102 = .ok (.if_icmp .ne 13, 3) := by decide +kernel
theorem d1_105 : decode method_3_code 105 = .ok (.sipush 251, 3) := by decide +kernel
theorem d1_108 : decode method_3_code 108 = .ok (.newarray .byte, 2) := by decide +kernel
theorem d1_110 : decode method_3_code 110 = .ok (.astore 4, 2) := by decide +kernel
theorem d1_112 : decode method_3_code 112 = .ok (.goto 10, 3) := by decide +kernel
theorem d1_115 : decode method_3_code 115 = .ok (.sipush 300, 3) := by decide +kernel
theorem d1_118 : decode method_3_code 118 = .ok (.newarray .byte, 2) := by decide +kernel
theorem d1_120 : decode method_3_code 120 = .ok (.astore 4, 2) := by decide +kernel
theorem d1_122 : decode method_3_code 122 = .ok (.aload 4, 2) := by decide +kernel
theorem d1_124 : decode method_3_code 124 = .ok (.arraylength, 1) := by decide +kernel
theorem d1_125 : decode method_3_code 125 = .ok (.istore 5, 2) := by decide +kernel
theorem d1_127 : decode method_3_code 127 = .ok (.aload 4, 2) := by decide +kernel
theorem d1_129 : decode method_3_code 129 = .ok (.iconst 0, 1) := by decide +kernel
theorem d1_130 : decode method_3_code 130 = .ok (.iload_n 1, 1) := by decide +kernel
theorem d1_131 : decode method_3_code 131 = .ok (.bastore, 1) := by decide +kernel
theorem d1_132 : decode method_3_code 132 = .ok (.aload 4, 2) := by decide +kernel
theorem d1_134 : decode method_3_code 134 = .ok (.iload 5, 2) := by decide +kernel
theorem d1_136 : decode method_3_code 136 = .ok (.iconst 2, 1) := by decide +kernel
theorem d1_137 : decode method_3_code 137 = .ok (.idiv, 1) := by decide +kernel
theorem d1_138 : decode method_3_code 138 = .ok (.iload_n 3, 1) := by decide +kernel
theorem d1_139 : decode method_3_code 139 = .ok (.bastore, 1) := by decide +kernel
theorem d1_140 : decode method_3_code 140 = .ok (.aload 4, 2) := by decide +kernel
theorem d1_142 : decode method_3_code 142 = .ok (.iload 5, 2) := by decide +kernel
theorem d1_144 : decode method_3_code 144 = .ok (.iconst 1, 1) := by decide +kernel
theorem d1_145 : decode method_3_code 145 = .ok (.isub, 1) := by decide +kernel
theorem d1_146 : decode method_3_code 146 = .ok (.iload_n 2, 1) := by decide +kernel
theorem d1_147 : decode method_3_code 147 = .ok (.bastore, 1) := by decide +kernel
theorem d1_148 : decode method_3_code 148 = .ok (.aload 4, 2) := by decide +kernel
theorem d1_150 : decode method_3_code 150 = .ok (.areturn, 1) := by decide +kernel
theorem pl_1 : plainFor y_1 = true := plainFor_of_name (by first | (simp [plainName, overriddenIn]; done) | decide +kernel)
theorem pd_1 : parseMethodDescriptor "(IBBB)[B" = some ⟨[.int, .byte, .byte, .byte], some (.array .byte)⟩ := by decide +kernel
abbrev y_2 : MethodName := ⟨"com/example/quintet/quintet/EapPacket", "<init>", "(III[B)V"⟩
theorem d2_0 : decode prog_17_method_1_code 0 = .ok (.aload_n 0, 1) := by decide +kernel
theorem d2_1 : decode prog_17_method_1_code 1 = .ok (.invokespecial 1, 3) := by decide +kernel
theorem d2_4 : decode prog_17_method_1_code 4 = .ok (.aload_n 0, 1) := by decide +kernel
theorem d2_5 : decode prog_17_method_1_code 5 = .ok (.iload_n 1, 1) := by decide +kernel
theorem d2_6 : decode prog_17_method_1_code 6 = .ok (.putfield 7, 3) := by decide +kernel
theorem d2_9 : decode prog_17_method_1_code 9 = .ok (.aload_n 0, 1) := by decide +kernel
theorem d2_10 : decode prog_17_method_1_code 10 = .ok (.iload_n 2, 1) := by decide +kernel
theorem d2_11 : decode prog_17_method_1_code 11 = .ok (.putfield 13, 3) := by decide +kernel
theorem d2_14 : decode prog_17_method_1_code 14 = .ok (.aload_n 0, 1) := by decide +kernel
theorem d2_15 : decode prog_17_method_1_code 15 = .ok (.iload_n 3, 1) := by decide +kernel
theorem d2_16 : decode prog_17_method_1_code 16 = .ok (.putfield 16, 3) := by decide +kernel
theorem d2_19 : decode prog_17_method_1_code 19 = .ok (.aload_n 0, 1) := by decide +kernel
theorem d2_20 : decode prog_17_method_1_code 20 = .ok (.aload 4, 2) := by decide +kernel
theorem d2_22 : decode prog_17_method_1_code 22 = .ok (.putfield 19, 3) := by decide +kernel
theorem d2_25 : decode prog_17_method_1_code 25 = .ok (.return_, 1) := by decide +kernel
theorem pl_2 : plainFor y_2 = true := plainFor_of_name (by first | (simp [plainName, overriddenIn]; done) | decide +kernel)
theorem pd_2 : parseMethodDescriptor "(III[B)V" = some ⟨[.int, .int, .int, (.array .byte)], none⟩ := by decide +kernel
abbrev y_3 : MethodName := ⟨"java/lang/Record", "<init>", "()V"⟩
theorem d3_0 : decode jdk_30_method_1_code 0 = .ok (.aload_n 0, 1) := by decide +kernel
theorem d3_1 : decode jdk_30_method_1_code 1 = .ok (.invokespecial 1, 3) := by decide +kernel
theorem d3_4 : decode jdk_30_method_1_code 4 = .ok (.return_, 1) := by decide +kernel
theorem pl_3 : plainFor y_3 = true := plainFor_of_name (by first | (simp [plainName, overriddenIn]; done) | decide +kernel)
theorem pd_3 : parseMethodDescriptor "()V" = some ⟨[], none⟩ := by decide +kernel
abbrev y_5 : MethodName := ⟨"com/example/quintet/quintet/EapPacket", "bytes", "()[B"⟩
theorem d5_0 : decode prog_17_method_5_code 0 = .ok (.aload_n 0, 1) := by decide +kernel
theorem d5_1 : decode prog_17_method_5_code 1 = .ok (.getfield 7, 3) := by decide +kernel
theorem d5_4 : decode prog_17_method_5_code 4 = .ok (.invokestatic 32, 3) := by decide +kernel
theorem d5_7 : decode prog_17_method_5_code 7 = .ok (.ifCond .eq 13, 3) := by decide +kernel
theorem d5_10 : decode prog_17_method_5_code 10 = .ok (.iconst 5, 1) := by decide +kernel
theorem d5_11 : decode prog_17_method_5_code 11 = .ok (.aload_n 0, 1) := by decide +kernel
theorem d5_12 : decode prog_17_method_5_code 12 = .ok (.getfield 19, 3) := by decide +kernel
theorem d5_15 : decode prog_17_method_5_code 15 = .ok (.arraylength, 1) := by decide +kernel
theorem d5_16 : decode prog_17_method_5_code 16 = .ok (.iadd, 1) := by decide +kernel
theorem d5_17 : decode prog_17_method_5_code 17 = .ok (.goto 4, 3) := by decide +kernel
theorem d5_20 : decode prog_17_method_5_code 20 = .ok (.iconst 4, 1) := by decide +kernel
theorem d5_21 : decode prog_17_method_5_code 21 = .ok (.istore_n 1, 1) := by decide +kernel
theorem d5_22 : decode prog_17_method_5_code 22 = .ok (.iload_n 1, 1) := by decide +kernel
theorem d5_23 : decode prog_17_method_5_code 23 = .ok (.newarray .byte, 2) := by decide +kernel
theorem d5_25 : decode prog_17_method_5_code 25 = .ok (.astore_n 2, 1) := by decide +kernel
theorem d5_26 : decode prog_17_method_5_code 26 = .ok (.aload_n 2, 1) := by decide +kernel
theorem d5_27 : decode prog_17_method_5_code 27 = .ok (.iconst 0, 1) := by decide +kernel
theorem d5_28 : decode prog_17_method_5_code 28 = .ok (.aload_n 0, 1) := by decide +kernel
theorem d5_29 : decode prog_17_method_5_code 29 = .ok (.getfield 7, 3) := by decide +kernel
theorem d5_32 : decode prog_17_method_5_code 32 = .ok (.i2b, 1) := by decide +kernel
theorem d5_33 : decode prog_17_method_5_code 33 = .ok (.bastore, 1) := by decide +kernel
theorem d5_34 : decode prog_17_method_5_code 34 = .ok (.aload_n 2, 1) := by decide +kernel
theorem d5_35 : decode prog_17_method_5_code 35 = .ok (.iconst 1, 1) := by decide +kernel
theorem d5_36 : decode prog_17_method_5_code 36 = .ok (.aload_n 0, 1) := by decide +kernel
theorem d5_37 : decode prog_17_method_5_code 37 = .ok (.getfield 13, 3) := by decide +kernel
theorem d5_40 : decode prog_17_method_5_code 40 = .ok (.i2b, 1) := by decide +kernel
theorem d5_41 : decode prog_17_method_5_code 41 = .ok (.bastore, 1) := by decide +kernel
theorem d5_42 : decode prog_17_method_5_code 42 = .ok (.aload_n 2, 1) := by decide +kernel
theorem d5_43 : decode prog_17_method_5_code 43 = .ok (.iconst 2, 1) := by decide +kernel
theorem d5_44 : decode prog_17_method_5_code 44 = .ok (.iload_n 1, 1) := by decide +kernel
theorem d5_45 : decode prog_17_method_5_code 45 = .ok (.bipush 8, 2) := by decide +kernel
theorem d5_47 : decode prog_17_method_5_code 47 = .ok (.iushr, 1) := by decide +kernel
theorem d5_48 : decode prog_17_method_5_code 48 = .ok (.i2b, 1) := by decide +kernel
theorem d5_49 : decode prog_17_method_5_code 49 = .ok (.bastore, 1) := by decide +kernel
theorem d5_50 : decode prog_17_method_5_code 50 = .ok (.aload_n 2, 1) := by decide +kernel
theorem d5_51 : decode prog_17_method_5_code 51 = .ok (.iconst 3, 1) := by decide +kernel
theorem d5_52 : decode prog_17_method_5_code 52 = .ok (.iload_n 1, 1) := by decide +kernel
theorem d5_53 : decode prog_17_method_5_code 53 = .ok (.i2b, 1) := by decide +kernel
theorem d5_54 : decode prog_17_method_5_code 54 = .ok (.bastore, 1) := by decide +kernel
theorem d5_55 : decode prog_17_method_5_code 55 = .ok (.aload_n 0, 1) := by decide +kernel
theorem d5_56 : decode prog_17_method_5_code 56 = .ok (.getfield 7, 3) := by decide +kernel
theorem d5_59 : decode prog_17_method_5_code 59 = .ok (.invokestatic 32, 3) := by decide +kernel
theorem d5_62 : decode prog_17_method_5_code 62 = .ok (.ifCond .eq 26, 3) := by decide +kernel
theorem d5_65 : decode prog_17_method_5_code 65 = .ok (.aload_n 2, 1) := by decide +kernel
theorem d5_66 : decode prog_17_method_5_code 66 = .ok (.iconst 4, 1) := by decide +kernel
theorem d5_67 : decode prog_17_method_5_code 67 = .ok (.aload_n 0, 1) := by decide +kernel
theorem d5_68 : decode prog_17_method_5_code 68 = .ok (.getfield 16, 3) := by decide +kernel
theorem d5_71 : decode prog_17_method_5_code 71 = .ok (.i2b, 1) := by decide +kernel
theorem d5_72 : decode prog_17_method_5_code 72 = .ok (.bastore, 1) := by decide +kernel
theorem d5_73 : decode prog_17_method_5_code 73 = .ok (.aload_n 0, 1) := by decide +kernel
theorem d5_74 : decode prog_17_method_5_code 74 = .ok (.getfield 19, 3) := by decide +kernel
theorem d5_77 : decode prog_17_method_5_code 77 = .ok (.iconst 0, 1) := by decide +kernel
theorem d5_78 : decode prog_17_method_5_code 78 = .ok (.aload_n 2, 1) := by decide +kernel
theorem d5_79 : decode prog_17_method_5_code 79 = .ok (.iconst 5, 1) := by decide +kernel
theorem d5_80 : decode prog_17_method_5_code 80 = .ok (.aload_n 0, 1) := by decide +kernel
theorem d5_81 : decode prog_17_method_5_code 81 = .ok (.getfield 19, 3) := by decide +kernel
theorem d5_84 : decode prog_17_method_5_code 84 = .ok (.arraylength, 1) := by decide +kernel
theorem d5_85 : decode prog_17_method_5_code 85 = .ok (.invokestatic 49, 3) := by decide +kernel
theorem d5_88 : decode prog_17_method_5_code 88 = .ok (.aload_n 2, 1) := by decide +kernel
theorem d5_89 : decode prog_17_method_5_code 89 = .ok (.areturn, 1) := by decide +kernel
theorem pl_5 : plainFor y_5 = true := plainFor_of_name (by first | (simp [plainName, overriddenIn]; done) | decide +kernel)
theorem pd_5 : parseMethodDescriptor "()[B" = some ⟨[], some (.array .byte)⟩ := by decide +kernel
abbrev y_6 : MethodName := ⟨"com/example/quintet/quintet/EapPacket", "typed", "(I)Z"⟩
theorem d6_0 : decode prog_17_method_6_code 0 = .ok (.iload_n 0, 1) := by decide +kernel
theorem d6_1 : decode prog_17_method_6_code 1 = .ok (.iconst 1, 1) := by decide +kernel
theorem d6_2 : decode prog_17_method_6_code 2 = .ok (.if_icmp .eq 8, 3) := by decide +kernel
theorem d6_5 : decode prog_17_method_6_code 5 = .ok (.iload_n 0, 1) := by decide +kernel
theorem d6_6 : decode prog_17_method_6_code 6 = .ok (.iconst 2, 1) := by decide +kernel
theorem d6_7 : decode prog_17_method_6_code 7 = .ok (.if_icmp .ne 7, 3) := by decide +kernel
theorem d6_10 : decode prog_17_method_6_code 10 = .ok (.iconst 1, 1) := by decide +kernel
theorem d6_11 : decode prog_17_method_6_code 11 = .ok (.goto 4, 3) := by decide +kernel
theorem d6_14 : decode prog_17_method_6_code 14 = .ok (.iconst 0, 1) := by decide +kernel
theorem d6_15 : decode prog_17_method_6_code 15 = .ok (.ireturn, 1) := by decide +kernel
theorem pl_6 : plainFor y_6 = true := plainFor_of_name (by first | (simp [plainName, overriddenIn]; done) | decide +kernel)
theorem pd_6 : parseMethodDescriptor "(I)Z" = some ⟨[.int], some .boolean⟩ := by decide +kernel
def LQ : Option Value → Hp → Prop := fun v _ => v = some (.int 1)
theorem own_addN (m n : Nat) : m.toInt32 + n.toInt32 = (m + n).toInt32 := (Int32.ofNat_add m n).symm
theorem own_subN {m n : Nat} (h : n ≤ m) (hm : m < 2147483648) : m.toInt32 - n.toInt32 = (m - n).toInt32 := by
  apply Int32.toInt_inj.mp
  have s := c_isub m.toInt32 n.toInt32
  have r := rng32 (m.toInt32 - n.toInt32)
  rw [(own_nat hm).2.2, (own_nat (by omega)).2.2] at s
  rw [(own_nat (m := m - n) (by omega)).2.2]
  omega
theorem own_modN {m n : Nat} (hm : m < 2147483648) (hn : n < 2147483648) : m.toInt32 % n.toInt32 = (m % n).toInt32 := by
  have : m % n ≤ m := Nat.mod_le m n
  apply Int32.toInt_inj.mp
  rw [Int32.toInt_mod, (own_nat hm).2.2, (own_nat hn).2.2, (own_nat (by omega)).2.2, Int.tmod_eq_emod_of_nonneg (by omega)]
  rfl
theorem own_inj {m n : Nat} (h : m < 2147483648) (h' : n < 2147483648) : m.toInt32 = n.toInt32 ↔ m = n := ⟨fun e => by have := congrArg Int32.toInt e; rw [(own_nat h).2.2, (own_nat h').2.2] at this; omega, fun e => by rw [e]⟩
theorem own_ne0 {n : Nat} (h : 0 < n) (h' : n < 2147483648) : n.toInt32 ≠ 0 := fun e => by
  have := (own_inj h' (by decide : 0 < 2147483648)).mp e
  omega
theorem nar_i8 (x : Int32) : nar .byte x.toInt8.toInt32 = x.toInt8.toInt32 := by
  show x.toInt8.toInt32.toInt8.toInt32 = x.toInt8.toInt32
  have h := c_i2b x
  have h2 := c_i2b x.toInt8.toInt32
  apply Int32.toInt_inj.mp
  omega
theorem own_b255 (x : Int32) : x.toInt8.toInt32 &&& 255 = x &&& 255 := by
  have h := c_i2b x
  have m1 := c_mask x.toInt8.toInt32 255 8 (by decide) (by decide)
  have m2 := c_mask x 255 8 (by decide) (by decide)
  apply Int32.toInt_inj.mp
  omega
theorem own_code {c : Int32} (h0 : 0 ≤ c.toInt) (h7 : c.toInt ≤ 7) : c.toInt8.toInt32 &&& 255 = c := by
  rw [own_b255]
  have m2 := c_mask c 255 8 (by decide) (by decide)
  apply Int32.toInt_inj.mp
  omega
theorem own_cpy {a b c d e : Int32} (dl rest : List Int32) (h : rest.length = dl.length) : (a :: b :: c :: d :: e :: rest).take 5 ++ (dl.drop 0).take dl.length ++ (a :: b :: c :: d :: e :: rest).drop (5 + dl.length) = a :: b :: c :: d :: e :: dl := by
  rw [Nat.add_comm 5, List.drop_zero, List.take_of_length_le (Nat.le_refl _)]
  simp [h]
theorem own_rep5 (n : Nat) : List.replicate (5 + n) (0 : Int32) = 0 :: 0 :: 0 :: 0 :: 0 :: List.replicate n 0 := by rw [Nat.add_comm]; rfl
theorem own_big {N : Nat} {d0 d1 d2 : Int32} (h : 6 ≤ N) : ((((List.replicate N (0 : Int32)).set 0 d0).set (N / 2) d2).set (N - 1) d1).length = N ∧ ((((List.replicate N (0 : Int32)).set 0 d0).set (N / 2) d2).set (N - 1) d1)[0]? = some d0 ∧ ((((List.replicate N (0 : Int32)).set 0 d0).set (N / 2) d2).set (N - 1) d1)[N / 2]? = some d2 ∧ ((((List.replicate N (0 : Int32)).set 0 d0).set (N / 2) d2).set (N - 1) d1)[N - 1]? = some d1 ∧ ((((List.replicate N (0 : Int32)).set 0 d0).set (N / 2) d2).set (N - 1) d1)[1]? = some 0 ∧ ((((List.replicate N (0 : Int32)).set 0 d0).set (N / 2) d2).set (N - 1) d1)[N - 2]? = some 0 := by
  have hr : ∀ i, i < N → (List.replicate N (0 : Int32))[i]? = some 0 := fun i hi => by rw [List.getElem?_replicate, if_pos hi]
  refine ⟨by simp, ?_, ?_, ?_, ?_, ?_⟩
  · rw [List.getElem?_set_ne (by omega), List.getElem?_set_ne (by omega), List.getElem?_set_self (by simp; omega)]
  · rw [List.getElem?_set_ne (by omega), List.getElem?_set_self (by simp; omega)]
  · rw [List.getElem?_set_self (by simp; omega)]
  · rw [List.getElem?_set_ne (by omega), List.getElem?_set_ne (by omega), List.getElem?_set_ne (by omega), hr 1 (by omega)]
  · rw [List.getElem?_set_ne (by omega), List.getElem?_set_ne (by omega), List.getElem?_set_ne (by omega), hr _ (by omega)]
set_option maxRecDepth 65536 in
set_option maxHeartbeats 40000000 in
theorem met_md0 {Z : State} (HT : Tb Z) {F : Hp} (d0 d1 d2 : Int32) (h0 : nar .byte d0 = d0) (h1 : nar .byte d1 = d1) (h2 : nar .byte d2 = d2) : Met Z y_1 method_3_code 6 (some (.array .byte)) ({ frames := 0, cells := 1, slots := 0, locals := 0 } : Room) [(.int (0 : Int32)), (.int d0), (.int d1), (.int d2)] (F) (fun v M' => ∃ da : Addr, v = some (.ref da) ∧ M' = ((da, ArI Z .byte ([] : List Int32)) :: F)) := by
  refine Met.of HT pl_1 (Ls := #[.val (.int (0 : Int32)), .val (.int d0), .val (.int d1), .val (.int d2), .unset, .unset]) (fun m => by first | (simp [entryFrame, mkF, argsToLocals, Value.category]; done) | rfl) (fun k H => ?_)
  refine s_iloadn H d1_0 rfl (pc' := 1) rfl ?_
  refine s_if H d1_1 (py := 8) (pc' := 4) z_ne (by decide) rfl (fun c1 => ?_) (fun c1 => ?_)
  · exact absurd c1 (by decide)
  · refine s_iconst H d1_4 (z := (0 : Int32)) (by decide) (pc' := 5) rfl ?_
    refine s_newarr_byte H d1_5 (mem (i := 4) rfl) (by decide) (cap := 0) (by decide) (by decide) (cn' := 1) (sn' := 0) rfl rfl (by decide) (by decide) (pc' := 7) rfl (fun da => ?_)
    show Go Z k 1 0 ((da, ArI Z .byte ([] : List Int32)) :: F) 7 #[.val (.int (0 : Int32)), .val (.int d0), .val (.int d1), .val (.int d2), .unset, .unset] [(.ref da)]
    exact s_aret H d1_7 rfl rfl (by decide) (by decide) (⟨da, rfl, rfl⟩)
set_option maxRecDepth 65536 in
set_option maxHeartbeats 40000000 in
theorem met_md1 {Z : State} (HT : Tb Z) {F : Hp} (d0 d1 d2 : Int32) (h0 : nar .byte d0 = d0) (h1 : nar .byte d1 = d1) (h2 : nar .byte d2 = d2) : Met Z y_1 method_3_code 6 (some (.array .byte)) ({ frames := 0, cells := 1, slots := 1, locals := 0 } : Room) [(.int (1 : Int32)), (.int d0), (.int d1), (.int d2)] (F) (fun v M' => ∃ da : Addr, v = some (.ref da) ∧ M' = ((da, ArI Z .byte ([d0] : List Int32)) :: F)) := by
  refine Met.of HT pl_1 (Ls := #[.val (.int (1 : Int32)), .val (.int d0), .val (.int d1), .val (.int d2), .unset, .unset]) (fun m => by first | (simp [entryFrame, mkF, argsToLocals, Value.category]; done) | rfl) (fun k H => ?_)
  refine s_iloadn H d1_0 rfl (pc' := 1) rfl ?_
  refine s_if H d1_1 (py := 8) (pc' := 4) z_ne (by decide) rfl (fun c1 => ?_) (fun c1 => ?_)
  · refine s_iloadn H d1_8 rfl (pc' := 9) rfl ?_
    refine s_iconst H d1_9 (z := (1 : Int32)) (by decide) (pc' := 10) rfl ?_
    refine s_icmp H d1_10 (py := 21) (pc' := 13) q_ne (by decide) rfl (fun c10 => ?_) (fun c10 => ?_)
    · exact absurd c10 (by decide)
    · refine s_iconst H d1_13 (z := (1 : Int32)) (by decide) (pc' := 14) rfl ?_
      refine s_newarr_byte H d1_14 (mem (i := 4) rfl) (by decide) (cap := 1) (by decide) (by decide) (cn' := 1) (sn' := 1) rfl rfl (by decide) (by decide) (pc' := 16) rfl (fun da => ?_)
      show Go Z k 1 1 ((da, ArI Z .byte ([(0 : Int32)] : List Int32)) :: F) 16 #[.val (.int (1 : Int32)), .val (.int d0), .val (.int d1), .val (.int d2), .unset, .unset] [(.ref da)]
      refine s_dup H d1_16 rfl (pc' := 17) rfl ?_
      refine s_iconst H d1_17 (z := (0 : Int32)) (by decide) (pc' := 18) rfl ?_
      refine s_iloadn H d1_18 rfl (pc' := 19) rfl ?_
      refine s_bastore H d1_19 (i := 0) rfl (by decide) (jn := 0) (by decide) (Nat.le_of_ble_eq_true rfl) (x := d0) h0.symm (pc' := 20) rfl ?_
      show Go Z k 1 1 ((da, ArI Z .byte ([d0] : List Int32)) :: F) 20 #[.val (.int (1 : Int32)), .val (.int d0), .val (.int d1), .val (.int d2), .unset, .unset] [(.ref da)]
      exact s_aret H d1_20 rfl rfl (by decide) (by decide) (⟨da, rfl, rfl⟩)
  · exact absurd c1 (by decide)
set_option maxRecDepth 65536 in
set_option maxHeartbeats 40000000 in
theorem met_md2 {Z : State} (HT : Tb Z) {F : Hp} (d0 d1 d2 : Int32) (h0 : nar .byte d0 = d0) (h1 : nar .byte d1 = d1) (h2 : nar .byte d2 = d2) : Met Z y_1 method_3_code 6 (some (.array .byte)) ({ frames := 0, cells := 1, slots := 2, locals := 0 } : Room) [(.int (2 : Int32)), (.int d0), (.int d1), (.int d2)] (F) (fun v M' => ∃ da : Addr, v = some (.ref da) ∧ M' = ((da, ArI Z .byte ([d0, d1] : List Int32)) :: F)) := by
  refine Met.of HT pl_1 (Ls := #[.val (.int (2 : Int32)), .val (.int d0), .val (.int d1), .val (.int d2), .unset, .unset]) (fun m => by first | (simp [entryFrame, mkF, argsToLocals, Value.category]; done) | rfl) (fun k H => ?_)
  refine s_iloadn H d1_0 rfl (pc' := 1) rfl ?_
  refine s_if H d1_1 (py := 8) (pc' := 4) z_ne (by decide) rfl (fun c1 => ?_) (fun c1 => ?_)
  · refine s_iloadn H d1_8 rfl (pc' := 9) rfl ?_
    refine s_iconst H d1_9 (z := (1 : Int32)) (by decide) (pc' := 10) rfl ?_
    refine s_icmp H d1_10 (py := 21) (pc' := 13) q_ne (by decide) rfl (fun c10 => ?_) (fun c10 => ?_)
    · refine s_iloadn H d1_21 rfl (pc' := 22) rfl ?_
      refine s_iconst H d1_22 (z := (2 : Int32)) (by decide) (pc' := 23) rfl ?_
      refine s_icmp H d1_23 (py := 38) (pc' := 26) q_ne (by decide) rfl (fun c23 => ?_) (fun c23 => ?_)
      · exact absurd c23 (by decide)
      · refine s_iconst H d1_26 (z := (2 : Int32)) (by decide) (pc' := 27) rfl ?_
        refine s_newarr_byte H d1_27 (mem (i := 4) rfl) (by decide) (cap := 2) (by decide) (by decide) (cn' := 1) (sn' := 2) rfl rfl (by decide) (by decide) (pc' := 29) rfl (fun da => ?_)
        show Go Z k 1 2 ((da, ArI Z .byte ([(0 : Int32), (0 : Int32)] : List Int32)) :: F) 29 #[.val (.int (2 : Int32)), .val (.int d0), .val (.int d1), .val (.int d2), .unset, .unset] [(.ref da)]
        refine s_dup H d1_29 rfl (pc' := 30) rfl ?_
        refine s_iconst H d1_30 (z := (0 : Int32)) (by decide) (pc' := 31) rfl ?_
        refine s_iloadn H d1_31 rfl (pc' := 32) rfl ?_
        refine s_bastore H d1_32 (i := 0) rfl (by decide) (jn := 0) (by decide) (Nat.le_of_ble_eq_true rfl) (x := d0) h0.symm (pc' := 33) rfl ?_
        show Go Z k 1 2 ((da, ArI Z .byte ([d0, (0 : Int32)] : List Int32)) :: F) 33 #[.val (.int (2 : Int32)), .val (.int d0), .val (.int d1), .val (.int d2), .unset, .unset] [(.ref da)]
        refine s_dup H d1_33 rfl (pc' := 34) rfl ?_
        refine s_iconst H d1_34 (z := (1 : Int32)) (by decide) (pc' := 35) rfl ?_
        refine s_iloadn H d1_35 rfl (pc' := 36) rfl ?_
        refine s_bastore H d1_36 (i := 0) rfl (by decide) (jn := 1) (by decide) (Nat.le_of_ble_eq_true rfl) (x := d1) h1.symm (pc' := 37) rfl ?_
        show Go Z k 1 2 ((da, ArI Z .byte ([d0, d1] : List Int32)) :: F) 37 #[.val (.int (2 : Int32)), .val (.int d0), .val (.int d1), .val (.int d2), .unset, .unset] [(.ref da)]
        exact s_aret H d1_37 rfl rfl (by decide) (by decide) (⟨da, rfl, rfl⟩)
    · exact absurd c10 (by decide)
  · exact absurd c1 (by decide)
set_option maxRecDepth 65536 in
set_option maxHeartbeats 40000000 in
theorem met_md3 {Z : State} (HT : Tb Z) {F : Hp} (d0 d1 d2 : Int32) (h0 : nar .byte d0 = d0) (h1 : nar .byte d1 = d1) (h2 : nar .byte d2 = d2) : Met Z y_1 method_3_code 6 (some (.array .byte)) ({ frames := 0, cells := 1, slots := 3, locals := 0 } : Room) [(.int (3 : Int32)), (.int d0), (.int d1), (.int d2)] (F) (fun v M' => ∃ da : Addr, v = some (.ref da) ∧ M' = ((da, ArI Z .byte ([d0, d1, d2] : List Int32)) :: F)) := by
  refine Met.of HT pl_1 (Ls := #[.val (.int (3 : Int32)), .val (.int d0), .val (.int d1), .val (.int d2), .unset, .unset]) (fun m => by first | (simp [entryFrame, mkF, argsToLocals, Value.category]; done) | rfl) (fun k H => ?_)
  refine s_iloadn H d1_0 rfl (pc' := 1) rfl ?_
  refine s_if H d1_1 (py := 8) (pc' := 4) z_ne (by decide) rfl (fun c1 => ?_) (fun c1 => ?_)
  · refine s_iloadn H d1_8 rfl (pc' := 9) rfl ?_
    refine s_iconst H d1_9 (z := (1 : Int32)) (by decide) (pc' := 10) rfl ?_
    refine s_icmp H d1_10 (py := 21) (pc' := 13) q_ne (by decide) rfl (fun c10 => ?_) (fun c10 => ?_)
    · refine s_iloadn H d1_21 rfl (pc' := 22) rfl ?_
      refine s_iconst H d1_22 (z := (2 : Int32)) (by decide) (pc' := 23) rfl ?_
      refine s_icmp H d1_23 (py := 38) (pc' := 26) q_ne (by decide) rfl (fun c23 => ?_) (fun c23 => ?_)
      · refine s_iloadn H d1_38 rfl (pc' := 39) rfl ?_
        refine s_iconst H d1_39 (z := (3 : Int32)) (by decide) (pc' := 40) rfl ?_
        refine s_icmp H d1_40 (py := 59) (pc' := 43) q_ne (by decide) rfl (fun c40 => ?_) (fun c40 => ?_)
        · exact absurd c40 (by decide)
        · refine s_iconst H d1_43 (z := (3 : Int32)) (by decide) (pc' := 44) rfl ?_
          refine s_newarr_byte H d1_44 (mem (i := 4) rfl) (by decide) (cap := 3) (by decide) (by decide) (cn' := 1) (sn' := 3) rfl rfl (by decide) (by decide) (pc' := 46) rfl (fun da => ?_)
          show Go Z k 1 3 ((da, ArI Z .byte ([(0 : Int32), (0 : Int32), (0 : Int32)] : List Int32)) :: F) 46 #[.val (.int (3 : Int32)), .val (.int d0), .val (.int d1), .val (.int d2), .unset, .unset] [(.ref da)]
          refine s_dup H d1_46 rfl (pc' := 47) rfl ?_
          refine s_iconst H d1_47 (z := (0 : Int32)) (by decide) (pc' := 48) rfl ?_
          refine s_iloadn H d1_48 rfl (pc' := 49) rfl ?_
          refine s_bastore H d1_49 (i := 0) rfl (by decide) (jn := 0) (by decide) (Nat.le_of_ble_eq_true rfl) (x := d0) h0.symm (pc' := 50) rfl ?_
          show Go Z k 1 3 ((da, ArI Z .byte ([d0, (0 : Int32), (0 : Int32)] : List Int32)) :: F) 50 #[.val (.int (3 : Int32)), .val (.int d0), .val (.int d1), .val (.int d2), .unset, .unset] [(.ref da)]
          refine s_dup H d1_50 rfl (pc' := 51) rfl ?_
          refine s_iconst H d1_51 (z := (1 : Int32)) (by decide) (pc' := 52) rfl ?_
          refine s_iloadn H d1_52 rfl (pc' := 53) rfl ?_
          refine s_bastore H d1_53 (i := 0) rfl (by decide) (jn := 1) (by decide) (Nat.le_of_ble_eq_true rfl) (x := d1) h1.symm (pc' := 54) rfl ?_
          show Go Z k 1 3 ((da, ArI Z .byte ([d0, d1, (0 : Int32)] : List Int32)) :: F) 54 #[.val (.int (3 : Int32)), .val (.int d0), .val (.int d1), .val (.int d2), .unset, .unset] [(.ref da)]
          refine s_dup H d1_54 rfl (pc' := 55) rfl ?_
          refine s_iconst H d1_55 (z := (2 : Int32)) (by decide) (pc' := 56) rfl ?_
          refine s_iloadn H d1_56 rfl (pc' := 57) rfl ?_
          refine s_bastore H d1_57 (i := 0) rfl (by decide) (jn := 2) (by decide) (Nat.le_of_ble_eq_true rfl) (x := d2) h2.symm (pc' := 58) rfl ?_
          show Go Z k 1 3 ((da, ArI Z .byte ([d0, d1, d2] : List Int32)) :: F) 58 #[.val (.int (3 : Int32)), .val (.int d0), .val (.int d1), .val (.int d2), .unset, .unset] [(.ref da)]
          exact s_aret H d1_58 rfl rfl (by decide) (by decide) (⟨da, rfl, rfl⟩)
      · exact absurd c23 (by decide)
    · exact absurd c10 (by decide)
  · exact absurd c1 (by decide)
set_option maxRecDepth 65536 in
set_option maxHeartbeats 40000000 in
theorem met_md4 {Z : State} (HT : Tb Z) {F : Hp} (d0 d1 d2 : Int32) (h0 : nar .byte d0 = d0) (h1 : nar .byte d1 = d1) (h2 : nar .byte d2 = d2) : Met Z y_1 method_3_code 6 (some (.array .byte)) ({ frames := 0, cells := 1, slots := 250, locals := 0 } : Room) [(.int (4 : Int32)), (.int d0), (.int d1), (.int d2)] (F) (fun v M' => ∃ (da : Addr) (dl : List Int32), dl.length = 250 ∧ dl[0]? = some d0 ∧ dl[125]? = some d2 ∧ dl[249]? = some d1 ∧ dl[1]? = some 0 ∧ dl[248]? = some 0 ∧ v = some (.ref da) ∧ M' = ((da, ArI Z .byte dl) :: F)) := by
  refine Met.of HT pl_1 (Ls := #[.val (.int (4 : Int32)), .val (.int d0), .val (.int d1), .val (.int d2), .unset, .unset]) (fun m => by first | (simp [entryFrame, mkF, argsToLocals, Value.category]; done) | rfl) (fun k H => ?_)
  refine s_iloadn H d1_0 rfl (pc' := 1) rfl ?_
  refine s_if H d1_1 (py := 8) (pc' := 4) z_ne (by decide) rfl (fun c1 => ?_) (fun c1 => ?_)
  · refine s_iloadn H d1_8 rfl (pc' := 9) rfl ?_
    refine s_iconst H d1_9 (z := (1 : Int32)) (by decide) (pc' := 10) rfl ?_
    refine s_icmp H d1_10 (py := 21) (pc' := 13) q_ne (by decide) rfl (fun c10 => ?_) (fun c10 => ?_)
    · refine s_iloadn H d1_21 rfl (pc' := 22) rfl ?_
      refine s_iconst H d1_22 (z := (2 : Int32)) (by decide) (pc' := 23) rfl ?_
      refine s_icmp H d1_23 (py := 38) (pc' := 26) q_ne (by decide) rfl (fun c23 => ?_) (fun c23 => ?_)
      · refine s_iloadn H d1_38 rfl (pc' := 39) rfl ?_
        refine s_iconst H d1_39 (z := (3 : Int32)) (by decide) (pc' := 40) rfl ?_
        refine s_icmp H d1_40 (py := 59) (pc' := 43) q_ne (by decide) rfl (fun c40 => ?_) (fun c40 => ?_)
        · refine s_iloadn H d1_59 rfl (pc' := 60) rfl ?_
          refine s_bipush H d1_60 (z := (7 : Int32)) (by decide) (pc' := 62) rfl ?_
          refine s_icmp H d1_62 (py := 85) (pc' := 65) q_ne (by decide) rfl (fun c62 => ?_) (fun c62 => ?_)
          · refine s_iloadn H d1_85 rfl (pc' := 86) rfl ?_
            refine s_iconst H d1_86 (z := (4 : Int32)) (by decide) (pc' := 87) rfl ?_
            refine s_icmp H d1_87 (py := 100) (pc' := 90) q_ne (by decide) rfl (fun c87 => ?_) (fun c87 => ?_)
            · exact absurd c87 (by decide)
            · refine s_sipush H d1_90 (z := (250 : Int32)) (by decide) (pc' := 93) rfl ?_
              refine s_newarr_byte H d1_93 (mem (i := 4) rfl) (by decide) (cap := 250) (by decide) (by decide) (cn' := 1) (sn' := 250) rfl rfl (by decide) (by decide) (pc' := 95) rfl (fun da => ?_)
              show Go Z k 1 250 ((da, ArI Z .byte (List.replicate 250 (0 : Int32))) :: F) 95 #[.val (.int (4 : Int32)), .val (.int d0), .val (.int d1), .val (.int d2), .unset, .unset] [(.ref da)]
              refine s_astore H d1_95 (L' := #[.val (.int (4 : Int32)), .val (.int d0), .val (.int d1), .val (.int d2), .val (.ref da), .unset]) rfl rfl (pc' := 97) rfl ?_
              refine s_goto H d1_97 (pc' := 122) (by decide) ?_
              refine s_aload H d1_122 rfl rfl (pc' := 124) rfl ?_
              refine s_alenI H d1_124 (i := 0) rfl (z := (250 : Int32)) (by simp; rfl) (pc' := 125) rfl ?_
              refine s_istore H d1_125 (L' := fun z => #[.val (.int (4 : Int32)), .val (.int d0), .val (.int d1), .val (.int d2), .val (.ref da), .val (.int z)]) (fun _ => rfl) (pc' := 127) rfl (fun z0 hz => ?_)
              subst z0
              refine s_aload H d1_127 rfl rfl (pc' := 129) rfl ?_
              refine s_iconst H d1_129 (z := (0 : Int32)) (by decide) (pc' := 130) rfl ?_
              refine s_iloadn H d1_130 rfl (pc' := 131) rfl ?_
              refine s_bastore H d1_131 (i := 0) rfl (by decide) (jn := 0) (by decide) (by simp) (x := d0) h0.symm (pc' := 132) rfl ?_
              show Go Z k 1 250 ((da, ArI Z .byte ((List.replicate 250 (0 : Int32)).set 0 d0)) :: F) 132 #[.val (.int (4 : Int32)), .val (.int d0), .val (.int d1), .val (.int d2), .val (.ref da), .val (.int (250 : Int32))] []
              refine s_aload H d1_132 rfl rfl (pc' := 134) rfl ?_
              refine s_iload H d1_134 rfl (pc' := 136) rfl ?_
              refine s_iconst H d1_136 (z := (2 : Int32)) (by decide) (pc' := 137) rfl ?_
              refine s_idiv H d1_137 (by decide) (pc' := 138) rfl ?_
              refine s_iloadn H d1_138 rfl (pc' := 139) rfl ?_
              refine s_bastore H d1_139 (i := 0) rfl (by decide) (jn := 125) (by decide) (by simp) (x := d2) h2.symm (pc' := 140) rfl ?_
              show Go Z k 1 250 ((da, ArI Z .byte (((List.replicate 250 (0 : Int32)).set 0 d0).set 125 d2)) :: F) 140 #[.val (.int (4 : Int32)), .val (.int d0), .val (.int d1), .val (.int d2), .val (.ref da), .val (.int (250 : Int32))] []
              refine s_aload H d1_140 rfl rfl (pc' := 142) rfl ?_
              refine s_iload H d1_142 rfl (pc' := 144) rfl ?_
              refine s_iconst H d1_144 (z := (1 : Int32)) (by decide) (pc' := 145) rfl ?_
              refine s_isub H d1_145 (pc' := 146) rfl ?_
              refine s_iloadn H d1_146 rfl (pc' := 147) rfl ?_
              refine s_bastore H d1_147 (i := 0) rfl (by decide) (jn := 249) (by decide) (by simp) (x := d1) h1.symm (pc' := 148) rfl ?_
              show Go Z k 1 250 ((da, ArI Z .byte ((((List.replicate 250 (0 : Int32)).set 0 d0).set 125 d2).set 249 d1)) :: F) 148 #[.val (.int (4 : Int32)), .val (.int d0), .val (.int d1), .val (.int d2), .val (.ref da), .val (.int (250 : Int32))] []
              refine s_aload H d1_148 rfl rfl (pc' := 150) rfl ?_
              refine s_aret H d1_150 rfl rfl (by decide) (by decide) ?_
              obtain ⟨k1, k2, k3, k4, k5, k6⟩ := own_big (N := 250) (d0 := d0) (d1 := d1) (d2 := d2) (by decide)
              exact ⟨da, _, k1, k2, k3, k4, k5, k6, rfl, rfl⟩
          · exact absurd c62 (by decide)
        · exact absurd c40 (by decide)
      · exact absurd c23 (by decide)
    · exact absurd c10 (by decide)
  · exact absurd c1 (by decide)
set_option maxRecDepth 65536 in
set_option maxHeartbeats 40000000 in
theorem met_md5 {Z : State} (HT : Tb Z) {F : Hp} (d0 d1 d2 : Int32) (h0 : nar .byte d0 = d0) (h1 : nar .byte d1 = d1) (h2 : nar .byte d2 = d2) : Met Z y_1 method_3_code 6 (some (.array .byte)) ({ frames := 0, cells := 1, slots := 251, locals := 0 } : Room) [(.int (5 : Int32)), (.int d0), (.int d1), (.int d2)] (F) (fun v M' => ∃ (da : Addr) (dl : List Int32), dl.length = 251 ∧ dl[0]? = some d0 ∧ dl[125]? = some d2 ∧ dl[250]? = some d1 ∧ dl[1]? = some 0 ∧ dl[249]? = some 0 ∧ v = some (.ref da) ∧ M' = ((da, ArI Z .byte dl) :: F)) := by
  refine Met.of HT pl_1 (Ls := #[.val (.int (5 : Int32)), .val (.int d0), .val (.int d1), .val (.int d2), .unset, .unset]) (fun m => by first | (simp [entryFrame, mkF, argsToLocals, Value.category]; done) | rfl) (fun k H => ?_)
  refine s_iloadn H d1_0 rfl (pc' := 1) rfl ?_
  refine s_if H d1_1 (py := 8) (pc' := 4) z_ne (by decide) rfl (fun c1 => ?_) (fun c1 => ?_)
  · refine s_iloadn H d1_8 rfl (pc' := 9) rfl ?_
    refine s_iconst H d1_9 (z := (1 : Int32)) (by decide) (pc' := 10) rfl ?_
    refine s_icmp H d1_10 (py := 21) (pc' := 13) q_ne (by decide) rfl (fun c10 => ?_) (fun c10 => ?_)
    · refine s_iloadn H d1_21 rfl (pc' := 22) rfl ?_
      refine s_iconst H d1_22 (z := (2 : Int32)) (by decide) (pc' := 23) rfl ?_
      refine s_icmp H d1_23 (py := 38) (pc' := 26) q_ne (by decide) rfl (fun c23 => ?_) (fun c23 => ?_)
      · refine s_iloadn H d1_38 rfl (pc' := 39) rfl ?_
        refine s_iconst H d1_39 (z := (3 : Int32)) (by decide) (pc' := 40) rfl ?_
        refine s_icmp H d1_40 (py := 59) (pc' := 43) q_ne (by decide) rfl (fun c40 => ?_) (fun c40 => ?_)
        · refine s_iloadn H d1_59 rfl (pc' := 60) rfl ?_
          refine s_bipush H d1_60 (z := (7 : Int32)) (by decide) (pc' := 62) rfl ?_
          refine s_icmp H d1_62 (py := 85) (pc' := 65) q_ne (by decide) rfl (fun c62 => ?_) (fun c62 => ?_)
          · refine s_iloadn H d1_85 rfl (pc' := 86) rfl ?_
            refine s_iconst H d1_86 (z := (4 : Int32)) (by decide) (pc' := 87) rfl ?_
            refine s_icmp H d1_87 (py := 100) (pc' := 90) q_ne (by decide) rfl (fun c87 => ?_) (fun c87 => ?_)
            · refine s_iloadn H d1_100 rfl (pc' := 101) rfl ?_
              refine s_iconst H d1_101 (z := (5 : Int32)) (by decide) (pc' := 102) rfl ?_
              refine s_icmp H d1_102 (py := 115) (pc' := 105) q_ne (by decide) rfl (fun c102 => ?_) (fun c102 => ?_)
              · exact absurd c102 (by decide)
              · refine s_sipush H d1_105 (z := (251 : Int32)) (by decide) (pc' := 108) rfl ?_
                refine s_newarr_byte H d1_108 (mem (i := 4) rfl) (by decide) (cap := 251) (by decide) (by decide) (cn' := 1) (sn' := 251) rfl rfl (by decide) (by decide) (pc' := 110) rfl (fun da => ?_)
                show Go Z k 1 251 ((da, ArI Z .byte (List.replicate 251 (0 : Int32))) :: F) 110 #[.val (.int (5 : Int32)), .val (.int d0), .val (.int d1), .val (.int d2), .unset, .unset] [(.ref da)]
                refine s_astore H d1_110 (L' := #[.val (.int (5 : Int32)), .val (.int d0), .val (.int d1), .val (.int d2), .val (.ref da), .unset]) rfl rfl (pc' := 112) rfl ?_
                refine s_goto H d1_112 (pc' := 122) (by decide) ?_
                refine s_aload H d1_122 rfl rfl (pc' := 124) rfl ?_
                refine s_alenI H d1_124 (i := 0) rfl (z := (251 : Int32)) (by simp; rfl) (pc' := 125) rfl ?_
                refine s_istore H d1_125 (L' := fun z => #[.val (.int (5 : Int32)), .val (.int d0), .val (.int d1), .val (.int d2), .val (.ref da), .val (.int z)]) (fun _ => rfl) (pc' := 127) rfl (fun z0 hz => ?_)
                subst z0
                refine s_aload H d1_127 rfl rfl (pc' := 129) rfl ?_
                refine s_iconst H d1_129 (z := (0 : Int32)) (by decide) (pc' := 130) rfl ?_
                refine s_iloadn H d1_130 rfl (pc' := 131) rfl ?_
                refine s_bastore H d1_131 (i := 0) rfl (by decide) (jn := 0) (by decide) (by simp) (x := d0) h0.symm (pc' := 132) rfl ?_
                show Go Z k 1 251 ((da, ArI Z .byte ((List.replicate 251 (0 : Int32)).set 0 d0)) :: F) 132 #[.val (.int (5 : Int32)), .val (.int d0), .val (.int d1), .val (.int d2), .val (.ref da), .val (.int (251 : Int32))] []
                refine s_aload H d1_132 rfl rfl (pc' := 134) rfl ?_
                refine s_iload H d1_134 rfl (pc' := 136) rfl ?_
                refine s_iconst H d1_136 (z := (2 : Int32)) (by decide) (pc' := 137) rfl ?_
                refine s_idiv H d1_137 (by decide) (pc' := 138) rfl ?_
                refine s_iloadn H d1_138 rfl (pc' := 139) rfl ?_
                refine s_bastore H d1_139 (i := 0) rfl (by decide) (jn := 125) (by decide) (by simp) (x := d2) h2.symm (pc' := 140) rfl ?_
                show Go Z k 1 251 ((da, ArI Z .byte (((List.replicate 251 (0 : Int32)).set 0 d0).set 125 d2)) :: F) 140 #[.val (.int (5 : Int32)), .val (.int d0), .val (.int d1), .val (.int d2), .val (.ref da), .val (.int (251 : Int32))] []
                refine s_aload H d1_140 rfl rfl (pc' := 142) rfl ?_
                refine s_iload H d1_142 rfl (pc' := 144) rfl ?_
                refine s_iconst H d1_144 (z := (1 : Int32)) (by decide) (pc' := 145) rfl ?_
                refine s_isub H d1_145 (pc' := 146) rfl ?_
                refine s_iloadn H d1_146 rfl (pc' := 147) rfl ?_
                refine s_bastore H d1_147 (i := 0) rfl (by decide) (jn := 250) (by decide) (by simp) (x := d1) h1.symm (pc' := 148) rfl ?_
                show Go Z k 1 251 ((da, ArI Z .byte ((((List.replicate 251 (0 : Int32)).set 0 d0).set 125 d2).set 250 d1)) :: F) 148 #[.val (.int (5 : Int32)), .val (.int d0), .val (.int d1), .val (.int d2), .val (.ref da), .val (.int (251 : Int32))] []
                refine s_aload H d1_148 rfl rfl (pc' := 150) rfl ?_
                refine s_aret H d1_150 rfl rfl (by decide) (by decide) ?_
                obtain ⟨k1, k2, k3, k4, k5, k6⟩ := own_big (N := 251) (d0 := d0) (d1 := d1) (d2 := d2) (by decide)
                exact ⟨da, _, k1, k2, k3, k4, k5, k6, rfl, rfl⟩
            · exact absurd c87 (by decide)
          · exact absurd c62 (by decide)
        · exact absurd c40 (by decide)
      · exact absurd c23 (by decide)
    · exact absurd c10 (by decide)
  · exact absurd c1 (by decide)
set_option maxRecDepth 65536 in
set_option maxHeartbeats 40000000 in
theorem met_md6 {Z : State} (HT : Tb Z) {F : Hp} (d0 d1 d2 : Int32) (h0 : nar .byte d0 = d0) (h1 : nar .byte d1 = d1) (h2 : nar .byte d2 = d2) : Met Z y_1 method_3_code 6 (some (.array .byte)) ({ frames := 0, cells := 1, slots := 300, locals := 0 } : Room) [(.int (6 : Int32)), (.int d0), (.int d1), (.int d2)] (F) (fun v M' => ∃ (da : Addr) (dl : List Int32), dl.length = 300 ∧ dl[0]? = some d0 ∧ dl[150]? = some d2 ∧ dl[299]? = some d1 ∧ dl[1]? = some 0 ∧ dl[298]? = some 0 ∧ v = some (.ref da) ∧ M' = ((da, ArI Z .byte dl) :: F)) := by
  refine Met.of HT pl_1 (Ls := #[.val (.int (6 : Int32)), .val (.int d0), .val (.int d1), .val (.int d2), .unset, .unset]) (fun m => by first | (simp [entryFrame, mkF, argsToLocals, Value.category]; done) | rfl) (fun k H => ?_)
  refine s_iloadn H d1_0 rfl (pc' := 1) rfl ?_
  refine s_if H d1_1 (py := 8) (pc' := 4) z_ne (by decide) rfl (fun c1 => ?_) (fun c1 => ?_)
  · refine s_iloadn H d1_8 rfl (pc' := 9) rfl ?_
    refine s_iconst H d1_9 (z := (1 : Int32)) (by decide) (pc' := 10) rfl ?_
    refine s_icmp H d1_10 (py := 21) (pc' := 13) q_ne (by decide) rfl (fun c10 => ?_) (fun c10 => ?_)
    · refine s_iloadn H d1_21 rfl (pc' := 22) rfl ?_
      refine s_iconst H d1_22 (z := (2 : Int32)) (by decide) (pc' := 23) rfl ?_
      refine s_icmp H d1_23 (py := 38) (pc' := 26) q_ne (by decide) rfl (fun c23 => ?_) (fun c23 => ?_)
      · refine s_iloadn H d1_38 rfl (pc' := 39) rfl ?_
        refine s_iconst H d1_39 (z := (3 : Int32)) (by decide) (pc' := 40) rfl ?_
        refine s_icmp H d1_40 (py := 59) (pc' := 43) q_ne (by decide) rfl (fun c40 => ?_) (fun c40 => ?_)
        · refine s_iloadn H d1_59 rfl (pc' := 60) rfl ?_
          refine s_bipush H d1_60 (z := (7 : Int32)) (by decide) (pc' := 62) rfl ?_
          refine s_icmp H d1_62 (py := 85) (pc' := 65) q_ne (by decide) rfl (fun c62 => ?_) (fun c62 => ?_)
          · refine s_iloadn H d1_85 rfl (pc' := 86) rfl ?_
            refine s_iconst H d1_86 (z := (4 : Int32)) (by decide) (pc' := 87) rfl ?_
            refine s_icmp H d1_87 (py := 100) (pc' := 90) q_ne (by decide) rfl (fun c87 => ?_) (fun c87 => ?_)
            · refine s_iloadn H d1_100 rfl (pc' := 101) rfl ?_
              refine s_iconst H d1_101 (z := (5 : Int32)) (by decide) (pc' := 102) rfl ?_
              refine s_icmp H d1_102 (py := 115) (pc' := 105) q_ne (by decide) rfl (fun c102 => ?_) (fun c102 => ?_)
              · refine s_sipush H d1_115 (z := (300 : Int32)) (by decide) (pc' := 118) rfl ?_
                refine s_newarr_byte H d1_118 (mem (i := 4) rfl) (by decide) (cap := 300) (by decide) (by decide) (cn' := 1) (sn' := 300) rfl rfl (by decide) (by decide) (pc' := 120) rfl (fun da => ?_)
                show Go Z k 1 300 ((da, ArI Z .byte (List.replicate 300 (0 : Int32))) :: F) 120 #[.val (.int (6 : Int32)), .val (.int d0), .val (.int d1), .val (.int d2), .unset, .unset] [(.ref da)]
                refine s_astore H d1_120 (L' := #[.val (.int (6 : Int32)), .val (.int d0), .val (.int d1), .val (.int d2), .val (.ref da), .unset]) rfl rfl (pc' := 122) rfl ?_
                refine s_aload H d1_122 rfl rfl (pc' := 124) rfl ?_
                refine s_alenI H d1_124 (i := 0) rfl (z := (300 : Int32)) (by simp; rfl) (pc' := 125) rfl ?_
                refine s_istore H d1_125 (L' := fun z => #[.val (.int (6 : Int32)), .val (.int d0), .val (.int d1), .val (.int d2), .val (.ref da), .val (.int z)]) (fun _ => rfl) (pc' := 127) rfl (fun z0 hz => ?_)
                subst z0
                refine s_aload H d1_127 rfl rfl (pc' := 129) rfl ?_
                refine s_iconst H d1_129 (z := (0 : Int32)) (by decide) (pc' := 130) rfl ?_
                refine s_iloadn H d1_130 rfl (pc' := 131) rfl ?_
                refine s_bastore H d1_131 (i := 0) rfl (by decide) (jn := 0) (by decide) (by simp) (x := d0) h0.symm (pc' := 132) rfl ?_
                show Go Z k 1 300 ((da, ArI Z .byte ((List.replicate 300 (0 : Int32)).set 0 d0)) :: F) 132 #[.val (.int (6 : Int32)), .val (.int d0), .val (.int d1), .val (.int d2), .val (.ref da), .val (.int (300 : Int32))] []
                refine s_aload H d1_132 rfl rfl (pc' := 134) rfl ?_
                refine s_iload H d1_134 rfl (pc' := 136) rfl ?_
                refine s_iconst H d1_136 (z := (2 : Int32)) (by decide) (pc' := 137) rfl ?_
                refine s_idiv H d1_137 (by decide) (pc' := 138) rfl ?_
                refine s_iloadn H d1_138 rfl (pc' := 139) rfl ?_
                refine s_bastore H d1_139 (i := 0) rfl (by decide) (jn := 150) (by decide) (by simp) (x := d2) h2.symm (pc' := 140) rfl ?_
                show Go Z k 1 300 ((da, ArI Z .byte (((List.replicate 300 (0 : Int32)).set 0 d0).set 150 d2)) :: F) 140 #[.val (.int (6 : Int32)), .val (.int d0), .val (.int d1), .val (.int d2), .val (.ref da), .val (.int (300 : Int32))] []
                refine s_aload H d1_140 rfl rfl (pc' := 142) rfl ?_
                refine s_iload H d1_142 rfl (pc' := 144) rfl ?_
                refine s_iconst H d1_144 (z := (1 : Int32)) (by decide) (pc' := 145) rfl ?_
                refine s_isub H d1_145 (pc' := 146) rfl ?_
                refine s_iloadn H d1_146 rfl (pc' := 147) rfl ?_
                refine s_bastore H d1_147 (i := 0) rfl (by decide) (jn := 299) (by decide) (by simp) (x := d1) h1.symm (pc' := 148) rfl ?_
                show Go Z k 1 300 ((da, ArI Z .byte ((((List.replicate 300 (0 : Int32)).set 0 d0).set 150 d2).set 299 d1)) :: F) 148 #[.val (.int (6 : Int32)), .val (.int d0), .val (.int d1), .val (.int d2), .val (.ref da), .val (.int (300 : Int32))] []
                refine s_aload H d1_148 rfl rfl (pc' := 150) rfl ?_
                refine s_aret H d1_150 rfl rfl (by decide) (by decide) ?_
                obtain ⟨k1, k2, k3, k4, k5, k6⟩ := own_big (N := 300) (d0 := d0) (d1 := d1) (d2 := d2) (by decide)
                exact ⟨da, _, k1, k2, k3, k4, k5, k6, rfl, rfl⟩
              · exact absurd c102 (by decide)
            · exact absurd c87 (by decide)
          · exact absurd c62 (by decide)
        · exact absurd c40 (by decide)
      · exact absurd c23 (by decide)
    · exact absurd c10 (by decide)
  · exact absurd c1 (by decide)
set_option maxRecDepth 65536 in
set_option maxHeartbeats 40000000 in
theorem met_md7 {Z : State} (HT : Tb Z) {F : Hp} (d0 d1 d2 : Int32) (h0 : nar .byte d0 = d0) (h1 : nar .byte d1 = d1) (h2 : nar .byte d2 = d2) : Met Z y_1 method_3_code 6 (some (.array .byte)) ({ frames := 0, cells := 1, slots := 4, locals := 0 } : Room) [(.int (7 : Int32)), (.int d0), (.int d1), (.int d2)] (F) (fun v M' => ∃ da : Addr, v = some (.ref da) ∧ M' = ((da, ArI Z .byte ([d0, d1, d2, d1] : List Int32)) :: F)) := by
  refine Met.of HT pl_1 (Ls := #[.val (.int (7 : Int32)), .val (.int d0), .val (.int d1), .val (.int d2), .unset, .unset]) (fun m => by first | (simp [entryFrame, mkF, argsToLocals, Value.category]; done) | rfl) (fun k H => ?_)
  refine s_iloadn H d1_0 rfl (pc' := 1) rfl ?_
  refine s_if H d1_1 (py := 8) (pc' := 4) z_ne (by decide) rfl (fun c1 => ?_) (fun c1 => ?_)
  · refine s_iloadn H d1_8 rfl (pc' := 9) rfl ?_
    refine s_iconst H d1_9 (z := (1 : Int32)) (by decide) (pc' := 10) rfl ?_
    refine s_icmp H d1_10 (py := 21) (pc' := 13) q_ne (by decide) rfl (fun c10 => ?_) (fun c10 => ?_)
    · refine s_iloadn H d1_21 rfl (pc' := 22) rfl ?_
      refine s_iconst H d1_22 (z := (2 : Int32)) (by decide) (pc' := 23) rfl ?_
      refine s_icmp H d1_23 (py := 38) (pc' := 26) q_ne (by decide) rfl (fun c23 => ?_) (fun c23 => ?_)
      · refine s_iloadn H d1_38 rfl (pc' := 39) rfl ?_
        refine s_iconst H d1_39 (z := (3 : Int32)) (by decide) (pc' := 40) rfl ?_
        refine s_icmp H d1_40 (py := 59) (pc' := 43) q_ne (by decide) rfl (fun c40 => ?_) (fun c40 => ?_)
        · refine s_iloadn H d1_59 rfl (pc' := 60) rfl ?_
          refine s_bipush H d1_60 (z := (7 : Int32)) (by decide) (pc' := 62) rfl ?_
          refine s_icmp H d1_62 (py := 85) (pc' := 65) q_ne (by decide) rfl (fun c62 => ?_) (fun c62 => ?_)
          · exact absurd c62 (by decide)
          · refine s_iconst H d1_65 (z := (4 : Int32)) (by decide) (pc' := 66) rfl ?_
            refine s_newarr_byte H d1_66 (mem (i := 4) rfl) (by decide) (cap := 4) (by decide) (by decide) (cn' := 1) (sn' := 4) rfl rfl (by decide) (by decide) (pc' := 68) rfl (fun da => ?_)
            show Go Z k 1 4 ((da, ArI Z .byte ([(0 : Int32), (0 : Int32), (0 : Int32), (0 : Int32)] : List Int32)) :: F) 68 #[.val (.int (7 : Int32)), .val (.int d0), .val (.int d1), .val (.int d2), .unset, .unset] [(.ref da)]
            refine s_dup H d1_68 rfl (pc' := 69) rfl ?_
            refine s_iconst H d1_69 (z := (0 : Int32)) (by decide) (pc' := 70) rfl ?_
            refine s_iloadn H d1_70 rfl (pc' := 71) rfl ?_
            refine s_bastore H d1_71 (i := 0) rfl (by decide) (jn := 0) (by decide) (Nat.le_of_ble_eq_true rfl) (x := d0) h0.symm (pc' := 72) rfl ?_
            show Go Z k 1 4 ((da, ArI Z .byte ([d0, (0 : Int32), (0 : Int32), (0 : Int32)] : List Int32)) :: F) 72 #[.val (.int (7 : Int32)), .val (.int d0), .val (.int d1), .val (.int d2), .unset, .unset] [(.ref da)]
            refine s_dup H d1_72 rfl (pc' := 73) rfl ?_
            refine s_iconst H d1_73 (z := (1 : Int32)) (by decide) (pc' := 74) rfl ?_
            refine s_iloadn H d1_74 rfl (pc' := 75) rfl ?_
            refine s_bastore H d1_75 (i := 0) rfl (by decide) (jn := 1) (by decide) (Nat.le_of_ble_eq_true rfl) (x := d1) h1.symm (pc' := 76) rfl ?_
            show Go Z k 1 4 ((da, ArI Z .byte ([d0, d1, (0 : Int32), (0 : Int32)] : List Int32)) :: F) 76 #[.val (.int (7 : Int32)), .val (.int d0), .val (.int d1), .val (.int d2), .unset, .unset] [(.ref da)]
            refine s_dup H d1_76 rfl (pc' := 77) rfl ?_
            refine s_iconst H d1_77 (z := (2 : Int32)) (by decide) (pc' := 78) rfl ?_
            refine s_iloadn H d1_78 rfl (pc' := 79) rfl ?_
            refine s_bastore H d1_79 (i := 0) rfl (by decide) (jn := 2) (by decide) (Nat.le_of_ble_eq_true rfl) (x := d2) h2.symm (pc' := 80) rfl ?_
            show Go Z k 1 4 ((da, ArI Z .byte ([d0, d1, d2, (0 : Int32)] : List Int32)) :: F) 80 #[.val (.int (7 : Int32)), .val (.int d0), .val (.int d1), .val (.int d2), .unset, .unset] [(.ref da)]
            refine s_dup H d1_80 rfl (pc' := 81) rfl ?_
            refine s_iconst H d1_81 (z := (3 : Int32)) (by decide) (pc' := 82) rfl ?_
            refine s_iloadn H d1_82 rfl (pc' := 83) rfl ?_
            refine s_bastore H d1_83 (i := 0) rfl (by decide) (jn := 3) (by decide) (Nat.le_of_ble_eq_true rfl) (x := d1) h1.symm (pc' := 84) rfl ?_
            show Go Z k 1 4 ((da, ArI Z .byte ([d0, d1, d2, d1] : List Int32)) :: F) 84 #[.val (.int (7 : Int32)), .val (.int d0), .val (.int d1), .val (.int d2), .unset, .unset] [(.ref da)]
            exact s_aret H d1_84 rfl rfl (by decide) (by decide) (⟨da, rfl, rfl⟩)
        · exact absurd c40 (by decide)
      · exact absurd c23 (by decide)
    · exact absurd c10 (by decide)
  · exact absurd c1 (by decide)
set_option maxRecDepth 65536 in
set_option maxHeartbeats 40000000 in
theorem met_rec {Z : State} (HT : Tb Z) {F : Hp} (p : Addr)  : Met Z y_3 jdk_30_method_1_code 1 none ({ frames := 1, cells := 0, slots := 0, locals := 12 } : Room) [(.ref p)] (F) (fun v M' => v = none ∧ M' = F) := by
  refine Met.of HT pl_3 (Ls := #[.val (.ref p)]) (fun m => by first | (simp [entryFrame, mkF, argsToLocals, Value.category]; done) | rfl) (fun k H => ?_)
  refine s_aloadn H d3_0 rfl rfl (pc' := 1) rfl ?_
  refine s_objinit H d3_1 (mem (i := 16) rfl) (mem (i := 17) rfl) (mem (i := 18) rfl) rfl (by decide) (Nat.le_of_ble_eq_true rfl) (pc' := 4) rfl ?_
  exact s_vret H d3_4 (by decide) (by decide) (⟨rfl, rfl⟩)
set_option maxRecDepth 65536 in
set_option maxHeartbeats 40000000 in
theorem met_ei {Z : State} (HT : Tb Z) {F : Hp} (p da : Addr) (c id0 ty0 : Int32)  : Met Z y_2 prog_17_method_1_code 5 none ({ frames := 2, cells := 0, slots := 0, locals := 24 } : Room) [(.ref p), (.int c), (.int id0), (.int ty0), (.ref da)] ((p, Obj Z "com/example/quintet/quintet/EapPacket" [("com/example/quintet/quintet/EapPacket", "code", "I", (.int (0 : Int32))), ("com/example/quintet/quintet/EapPacket", "identifier", "I", (.int (0 : Int32))), ("com/example/quintet/quintet/EapPacket", "type", "I", (.int (0 : Int32))), ("com/example/quintet/quintet/EapPacket", "data", "[B", .null)]) :: F) (fun v M' => v = none ∧ M' = ((p, Obj Z "com/example/quintet/quintet/EapPacket" [("com/example/quintet/quintet/EapPacket", "code", "I", (.int c)), ("com/example/quintet/quintet/EapPacket", "identifier", "I", (.int id0)), ("com/example/quintet/quintet/EapPacket", "type", "I", (.int ty0)), ("com/example/quintet/quintet/EapPacket", "data", "[B", (.ref da))]) :: F)) := by
  refine Met.of HT pl_2 (Ls := #[.val (.ref p), .val (.int c), .val (.int id0), .val (.int ty0), .val (.ref da)]) (fun m => by first | (simp [entryFrame, mkF, argsToLocals, Value.category]; done) | rfl) (fun k H => ?_)
  refine s_aloadn H d2_0 rfl rfl (pc' := 1) rfl ?_
  refine s_init H (met_rec H.tb p) d2_1 rfl (mem (i := 11) rfl) (mem (i := 12) rfl) (mem (i := 14) rfl) (mem (i := 15) rfl) (by decide) pd_3 rfl (rest := []) rfl rfl (by decide) (Nat.le_of_ble_eq_true rfl) (cn' := 0) (sn' := 0) rfl rfl (by decide) (by decide) (pc' := 4) rfl (fun _ _ hq => ?_)
  obtain ⟨rfl, rfl⟩ := hq
  show Go Z k 0 0 ((p, Obj Z "com/example/quintet/quintet/EapPacket" [("com/example/quintet/quintet/EapPacket", "code", "I", (.int (0 : Int32))), ("com/example/quintet/quintet/EapPacket", "identifier", "I", (.int (0 : Int32))), ("com/example/quintet/quintet/EapPacket", "type", "I", (.int (0 : Int32))), ("com/example/quintet/quintet/EapPacket", "data", "[B", .null)]) :: F) 4 #[.val (.ref p), .val (.int c), .val (.int id0), .val (.int ty0), .val (.ref da)] []
  refine s_aloadn H d2_4 rfl rfl (pc' := 5) rfl ?_
  refine s_iloadn H d2_5 rfl (pc' := 6) rfl ?_
  refine s_putf H d2_6 (mem (i := 19) rfl) (Or.inr ⟨(mem (i := 20) rfl), rfl, rfl⟩) (mem (i := 6) rfl) (ty := .int) (by decide) rfl rfl (i := 0) (j := 0) rfl rfl (pc' := 9) rfl ?_
  show Go Z k 0 0 ((p, Obj Z "com/example/quintet/quintet/EapPacket" [("com/example/quintet/quintet/EapPacket", "code", "I", (.int c)), ("com/example/quintet/quintet/EapPacket", "identifier", "I", (.int (0 : Int32))), ("com/example/quintet/quintet/EapPacket", "type", "I", (.int (0 : Int32))), ("com/example/quintet/quintet/EapPacket", "data", "[B", .null)]) :: F) 9 #[.val (.ref p), .val (.int c), .val (.int id0), .val (.int ty0), .val (.ref da)] []
  refine s_aloadn H d2_9 rfl rfl (pc' := 10) rfl ?_
  refine s_iloadn H d2_10 rfl (pc' := 11) rfl ?_
  refine s_putf H d2_11 (mem (i := 21) rfl) (Or.inr ⟨(mem (i := 22) rfl), rfl, rfl⟩) (mem (i := 6) rfl) (ty := .int) (by decide) rfl rfl (i := 0) (j := 1) rfl rfl (pc' := 14) rfl ?_
  show Go Z k 0 0 ((p, Obj Z "com/example/quintet/quintet/EapPacket" [("com/example/quintet/quintet/EapPacket", "code", "I", (.int c)), ("com/example/quintet/quintet/EapPacket", "identifier", "I", (.int id0)), ("com/example/quintet/quintet/EapPacket", "type", "I", (.int (0 : Int32))), ("com/example/quintet/quintet/EapPacket", "data", "[B", .null)]) :: F) 14 #[.val (.ref p), .val (.int c), .val (.int id0), .val (.int ty0), .val (.ref da)] []
  refine s_aloadn H d2_14 rfl rfl (pc' := 15) rfl ?_
  refine s_iloadn H d2_15 rfl (pc' := 16) rfl ?_
  refine s_putf H d2_16 (mem (i := 23) rfl) (Or.inr ⟨(mem (i := 24) rfl), rfl, rfl⟩) (mem (i := 6) rfl) (ty := .int) (by decide) rfl rfl (i := 0) (j := 2) rfl rfl (pc' := 19) rfl ?_
  show Go Z k 0 0 ((p, Obj Z "com/example/quintet/quintet/EapPacket" [("com/example/quintet/quintet/EapPacket", "code", "I", (.int c)), ("com/example/quintet/quintet/EapPacket", "identifier", "I", (.int id0)), ("com/example/quintet/quintet/EapPacket", "type", "I", (.int ty0)), ("com/example/quintet/quintet/EapPacket", "data", "[B", .null)]) :: F) 19 #[.val (.ref p), .val (.int c), .val (.int id0), .val (.int ty0), .val (.ref da)] []
  refine s_aloadn H d2_19 rfl rfl (pc' := 20) rfl ?_
  refine s_aload H d2_20 rfl rfl (pc' := 22) rfl ?_
  refine s_putf H d2_22 (mem (i := 25) rfl) (Or.inr ⟨(mem (i := 26) rfl), rfl, rfl⟩) (mem (i := 6) rfl) (ty := (.array .byte)) (by decide) rfl rfl (i := 0) (j := 3) rfl rfl (pc' := 25) rfl ?_
  show Go Z k 0 0 ((p, Obj Z "com/example/quintet/quintet/EapPacket" [("com/example/quintet/quintet/EapPacket", "code", "I", (.int c)), ("com/example/quintet/quintet/EapPacket", "identifier", "I", (.int id0)), ("com/example/quintet/quintet/EapPacket", "type", "I", (.int ty0)), ("com/example/quintet/quintet/EapPacket", "data", "[B", (.ref da))]) :: F) 25 #[.val (.ref p), .val (.int c), .val (.int id0), .val (.int ty0), .val (.ref da)] []
  exact s_vret H d2_25 (by decide) (by decide) (⟨rfl, rfl⟩)
set_option maxRecDepth 65536 in
set_option maxHeartbeats 40000000 in
theorem met_ty {Z : State} (HT : Tb Z) {F : Hp} (c : Int32)  : Met Z y_6 prog_17_method_6_code 1 (some .boolean) ({ frames := 0, cells := 0, slots := 0, locals := 0 } : Room) [(.int c)] (F) (fun v M' => v = some (.int (if c = 1 ∨ c = 2 then 1 else 0)) ∧ M' = F) := by
  refine Met.of HT pl_6 (Ls := #[.val (.int c)]) (fun m => by first | (simp [entryFrame, mkF, argsToLocals, Value.category]; done) | rfl) (fun k H => ?_)
  refine s_iloadn H d6_0 rfl (pc' := 1) rfl ?_
  refine s_iconst H d6_1 (z := (1 : Int32)) (by decide) (pc' := 2) rfl ?_
  refine s_icmp H d6_2 (py := 10) (pc' := 5) q_eq (by decide) rfl (fun c2 => ?_) (fun c2 => ?_)
  · refine s_iconst H d6_10 (z := (1 : Int32)) (by decide) (pc' := 11) rfl ?_
    refine s_goto H d6_11 (pc' := 15) (by decide) ?_
    exact s_iret H d6_15 rfl (by simp) (by decide) (by decide) (⟨by simp_all, rfl⟩)
  · refine s_iloadn H d6_5 rfl (pc' := 6) rfl ?_
    refine s_iconst H d6_6 (z := (2 : Int32)) (by decide) (pc' := 7) rfl ?_
    refine s_icmp H d6_7 (py := 14) (pc' := 10) q_ne (by decide) rfl (fun c7 => ?_) (fun c7 => ?_)
    · refine s_iconst H d6_14 (z := (0 : Int32)) (by decide) (pc' := 15) rfl ?_
      exact s_iret H d6_15 rfl (by simp) (by decide) (by decide) (⟨by simp_all, rfl⟩)
    · refine s_iconst H d6_10 (z := (1 : Int32)) (by decide) (pc' := 11) rfl ?_
      refine s_goto H d6_11 (pc' := 15) (by decide) ?_
      exact s_iret H d6_15 rfl (by simp) (by decide) (by decide) (⟨by simp_all, rfl⟩)
set_option maxRecDepth 65536 in
set_option maxHeartbeats 40000000 in
theorem met_byt {Z : State} (HT : Tb Z) {F : Hp} (p da : Addr) (c id0 ty0 : Int32) (dl : List Int32) (hc : c = 1 ∨ c = 2) (hl : dl.length ≤ 300) : Met Z y_5 prog_17_method_5_code 3 (some (.array .byte)) ({ frames := 1, cells := 1, slots := 305, locals := 40 } : Room) [(.ref p)] ((p, Obj Z "com/example/quintet/quintet/EapPacket" [("com/example/quintet/quintet/EapPacket", "code", "I", (.int c)), ("com/example/quintet/quintet/EapPacket", "identifier", "I", (.int id0)), ("com/example/quintet/quintet/EapPacket", "type", "I", (.int ty0)), ("com/example/quintet/quintet/EapPacket", "data", "[B", (.ref da))]) :: (da, ArI Z .byte dl) :: F) (fun v M' => ∃ ou : Addr, v = some (.ref ou) ∧ M' = ((ou, ArI Z .byte ((c.toInt8.toInt32) :: (id0.toInt8.toInt32) :: ((((5 + dl.length).toInt32.toUInt32 >>> ((8 : Int32) &&& 31).toUInt32).toInt32).toInt8.toInt32) :: ((5 + dl.length).toInt32.toInt8.toInt32) :: (ty0.toInt8.toInt32) :: dl)) :: (p, Obj Z "com/example/quintet/quintet/EapPacket" [("com/example/quintet/quintet/EapPacket", "code", "I", (.int c)), ("com/example/quintet/quintet/EapPacket", "identifier", "I", (.int id0)), ("com/example/quintet/quintet/EapPacket", "type", "I", (.int ty0)), ("com/example/quintet/quintet/EapPacket", "data", "[B", (.ref da))]) :: (da, ArI Z .byte dl) :: F)) := by
  refine Met.of HT pl_5 (Ls := #[.val (.ref p), .unset, .unset]) (fun m => by first | (simp [entryFrame, mkF, argsToLocals, Value.category]; done) | rfl) (fun k H => ?_)
  refine s_aloadn H d5_0 rfl rfl (pc' := 1) rfl ?_
  refine s_getf H d5_1 (mem (i := 19) rfl) (i := 0) (j := 0) rfl rfl (pc' := 4) rfl ?_
  refine s_static H (met_ty H.tb c) d5_4 (mem (i := 32) rfl) (mem (i := 33) rfl) (mem (i := 7) rfl) (mem (i := 34) rfl) (by decide) pd_6 rfl (rest := []) rfl rfl (by decide) (Nat.le_of_ble_eq_true rfl) (cn' := 0) (sn' := 0) rfl rfl (by decide) (by decide) (pc' := 7) rfl (fun _ _ hq => ?_)
  obtain ⟨rfl, rfl⟩ := hq
  show Go Z k 0 0 ((p, Obj Z "com/example/quintet/quintet/EapPacket" [("com/example/quintet/quintet/EapPacket", "code", "I", (.int c)), ("com/example/quintet/quintet/EapPacket", "identifier", "I", (.int id0)), ("com/example/quintet/quintet/EapPacket", "type", "I", (.int ty0)), ("com/example/quintet/quintet/EapPacket", "data", "[B", (.ref da))]) :: (da, ArI Z .byte dl) :: F) 7 #[.val (.ref p), .unset, .unset] [(.int (if c = 1 ∨ c = 2 then 1 else 0))]
  rw [if_pos hc]
  show Go Z k 0 0 ((p, Obj Z "com/example/quintet/quintet/EapPacket" [("com/example/quintet/quintet/EapPacket", "code", "I", (.int c)), ("com/example/quintet/quintet/EapPacket", "identifier", "I", (.int id0)), ("com/example/quintet/quintet/EapPacket", "type", "I", (.int ty0)), ("com/example/quintet/quintet/EapPacket", "data", "[B", (.ref da))]) :: (da, ArI Z .byte dl) :: F) 7 #[.val (.ref p), .unset, .unset] [(.int (1 : Int32))]
  refine s_if H d5_7 (py := 20) (pc' := 10) z_eq (by decide) rfl (fun c7 => ?_) (fun c7 => ?_)
  · exact absurd c7 (by decide)
  · refine s_iconst H d5_10 (z := (5 : Int32)) (by decide) (pc' := 11) rfl ?_
    refine s_aloadn H d5_11 rfl rfl (pc' := 12) rfl ?_
    refine s_getf H d5_12 (mem (i := 25) rfl) (i := 0) (j := 3) rfl rfl (pc' := 15) rfl ?_
    refine s_alenI H d5_15 (i := 1) rfl (z := dl.length.toInt32) rfl (pc' := 16) rfl ?_
    refine s_iadd H d5_16 (pc' := 17) rfl ?_
    rw [show (5 : Int32) + dl.length.toInt32 = (5 + dl.length).toInt32 from own_addN 5 _]
    refine s_goto H d5_17 (pc' := 21) (by decide) ?_
    refine s_istoren H d5_21 (L' := fun z => #[.val (.ref p), .val (.int z), .unset]) (fun _ => rfl) (pc' := 22) rfl (fun z0 hz => ?_)
    subst z0
    refine s_iloadn H d5_22 rfl (pc' := 23) rfl ?_
    refine s_newarr_byte H d5_23 (mem (i := 4) rfl) (own_nat (by omega)).2.1 (cap := 305) (by rw [(own_nat (by omega)).1]; omega) (by decide) (cn' := 1) (sn' := 305) rfl rfl (by decide) (by decide) (pc' := 25) rfl (fun ou => ?_)
    rw [(own_nat (by omega)).1, own_rep5]
    show Go Z k 1 305 ((ou, ArI Z .byte (0 :: 0 :: 0 :: 0 :: 0 :: List.replicate dl.length 0)) :: (p, Obj Z "com/example/quintet/quintet/EapPacket" [("com/example/quintet/quintet/EapPacket", "code", "I", (.int c)), ("com/example/quintet/quintet/EapPacket", "identifier", "I", (.int id0)), ("com/example/quintet/quintet/EapPacket", "type", "I", (.int ty0)), ("com/example/quintet/quintet/EapPacket", "data", "[B", (.ref da))]) :: (da, ArI Z .byte dl) :: F) 25 #[.val (.ref p), .val (.int (5 + dl.length).toInt32), .unset] [(.ref ou)]
    refine s_astoren H d5_25 (L' := #[.val (.ref p), .val (.int (5 + dl.length).toInt32), .val (.ref ou)]) rfl rfl (pc' := 26) rfl ?_
    refine s_aloadn H d5_26 rfl rfl (pc' := 27) rfl ?_
    refine s_iconst H d5_27 (z := (0 : Int32)) (by decide) (pc' := 28) rfl ?_
    refine s_aloadn H d5_28 rfl rfl (pc' := 29) rfl ?_
    refine s_getf H d5_29 (mem (i := 19) rfl) (i := 1) (j := 0) rfl rfl (pc' := 32) rfl ?_
    refine s_i2b H d5_32 (pc' := 33) rfl ?_
    refine s_bastore H d5_33 (i := 0) rfl (by decide) (jn := 0) (by decide) (by simp) (x := (c.toInt8.toInt32)) (nar_i8 _).symm (pc' := 34) rfl ?_
    show Go Z k 1 305 ((ou, ArI Z .byte ((c.toInt8.toInt32) :: 0 :: 0 :: 0 :: 0 :: List.replicate dl.length 0)) :: (p, Obj Z "com/example/quintet/quintet/EapPacket" [("com/example/quintet/quintet/EapPacket", "code", "I", (.int c)), ("com/example/quintet/quintet/EapPacket", "identifier", "I", (.int id0)), ("com/example/quintet/quintet/EapPacket", "type", "I", (.int ty0)), ("com/example/quintet/quintet/EapPacket", "data", "[B", (.ref da))]) :: (da, ArI Z .byte dl) :: F) 34 #[.val (.ref p), .val (.int (5 + dl.length).toInt32), .val (.ref ou)] []
    refine s_aloadn H d5_34 rfl rfl (pc' := 35) rfl ?_
    refine s_iconst H d5_35 (z := (1 : Int32)) (by decide) (pc' := 36) rfl ?_
    refine s_aloadn H d5_36 rfl rfl (pc' := 37) rfl ?_
    refine s_getf H d5_37 (mem (i := 21) rfl) (i := 1) (j := 1) rfl rfl (pc' := 40) rfl ?_
    refine s_i2b H d5_40 (pc' := 41) rfl ?_
    refine s_bastore H d5_41 (i := 0) rfl (by decide) (jn := 1) (by decide) (by simp) (x := (id0.toInt8.toInt32)) (nar_i8 _).symm (pc' := 42) rfl ?_
    show Go Z k 1 305 ((ou, ArI Z .byte ((c.toInt8.toInt32) :: (id0.toInt8.toInt32) :: 0 :: 0 :: 0 :: List.replicate dl.length 0)) :: (p, Obj Z "com/example/quintet/quintet/EapPacket" [("com/example/quintet/quintet/EapPacket", "code", "I", (.int c)), ("com/example/quintet/quintet/EapPacket", "identifier", "I", (.int id0)), ("com/example/quintet/quintet/EapPacket", "type", "I", (.int ty0)), ("com/example/quintet/quintet/EapPacket", "data", "[B", (.ref da))]) :: (da, ArI Z .byte dl) :: F) 42 #[.val (.ref p), .val (.int (5 + dl.length).toInt32), .val (.ref ou)] []
    refine s_aloadn H d5_42 rfl rfl (pc' := 43) rfl ?_
    refine s_iconst H d5_43 (z := (2 : Int32)) (by decide) (pc' := 44) rfl ?_
    refine s_iloadn H d5_44 rfl (pc' := 45) rfl ?_
    refine s_bipush H d5_45 (z := (8 : Int32)) (by decide) (pc' := 47) rfl ?_
    refine s_iushr H d5_47 (pc' := 48) rfl ?_
    refine s_i2b H d5_48 (pc' := 49) rfl ?_
    refine s_bastore H d5_49 (i := 0) rfl (by decide) (jn := 2) (by decide) (by simp) (x := ((((5 + dl.length).toInt32.toUInt32 >>> ((8 : Int32) &&& 31).toUInt32).toInt32).toInt8.toInt32)) (nar_i8 _).symm (pc' := 50) rfl ?_
    show Go Z k 1 305 ((ou, ArI Z .byte ((c.toInt8.toInt32) :: (id0.toInt8.toInt32) :: ((((5 + dl.length).toInt32.toUInt32 >>> ((8 : Int32) &&& 31).toUInt32).toInt32).toInt8.toInt32) :: 0 :: 0 :: List.replicate dl.length 0)) :: (p, Obj Z "com/example/quintet/quintet/EapPacket" [("com/example/quintet/quintet/EapPacket", "code", "I", (.int c)), ("com/example/quintet/quintet/EapPacket", "identifier", "I", (.int id0)), ("com/example/quintet/quintet/EapPacket", "type", "I", (.int ty0)), ("com/example/quintet/quintet/EapPacket", "data", "[B", (.ref da))]) :: (da, ArI Z .byte dl) :: F) 50 #[.val (.ref p), .val (.int (5 + dl.length).toInt32), .val (.ref ou)] []
    refine s_aloadn H d5_50 rfl rfl (pc' := 51) rfl ?_
    refine s_iconst H d5_51 (z := (3 : Int32)) (by decide) (pc' := 52) rfl ?_
    refine s_iloadn H d5_52 rfl (pc' := 53) rfl ?_
    refine s_i2b H d5_53 (pc' := 54) rfl ?_
    refine s_bastore H d5_54 (i := 0) rfl (by decide) (jn := 3) (by decide) (by simp) (x := ((5 + dl.length).toInt32.toInt8.toInt32)) (nar_i8 _).symm (pc' := 55) rfl ?_
    show Go Z k 1 305 ((ou, ArI Z .byte ((c.toInt8.toInt32) :: (id0.toInt8.toInt32) :: ((((5 + dl.length).toInt32.toUInt32 >>> ((8 : Int32) &&& 31).toUInt32).toInt32).toInt8.toInt32) :: ((5 + dl.length).toInt32.toInt8.toInt32) :: 0 :: List.replicate dl.length 0)) :: (p, Obj Z "com/example/quintet/quintet/EapPacket" [("com/example/quintet/quintet/EapPacket", "code", "I", (.int c)), ("com/example/quintet/quintet/EapPacket", "identifier", "I", (.int id0)), ("com/example/quintet/quintet/EapPacket", "type", "I", (.int ty0)), ("com/example/quintet/quintet/EapPacket", "data", "[B", (.ref da))]) :: (da, ArI Z .byte dl) :: F) 55 #[.val (.ref p), .val (.int (5 + dl.length).toInt32), .val (.ref ou)] []
    refine s_aloadn H d5_55 rfl rfl (pc' := 56) rfl ?_
    refine s_getf H d5_56 (mem (i := 19) rfl) (i := 1) (j := 0) rfl rfl (pc' := 59) rfl ?_
    refine s_static H (met_ty H.tb c) d5_59 (mem (i := 32) rfl) (mem (i := 33) rfl) (mem (i := 7) rfl) (mem (i := 34) rfl) (by decide) pd_6 rfl (rest := []) rfl rfl (by decide) (Nat.le_of_ble_eq_true rfl) (cn' := 1) (sn' := 305) rfl rfl (by decide) (by decide) (pc' := 62) rfl (fun _ _ hq => ?_)
    obtain ⟨rfl, rfl⟩ := hq
    show Go Z k 1 305 ((ou, ArI Z .byte ((c.toInt8.toInt32) :: (id0.toInt8.toInt32) :: ((((5 + dl.length).toInt32.toUInt32 >>> ((8 : Int32) &&& 31).toUInt32).toInt32).toInt8.toInt32) :: ((5 + dl.length).toInt32.toInt8.toInt32) :: 0 :: List.replicate dl.length 0)) :: (p, Obj Z "com/example/quintet/quintet/EapPacket" [("com/example/quintet/quintet/EapPacket", "code", "I", (.int c)), ("com/example/quintet/quintet/EapPacket", "identifier", "I", (.int id0)), ("com/example/quintet/quintet/EapPacket", "type", "I", (.int ty0)), ("com/example/quintet/quintet/EapPacket", "data", "[B", (.ref da))]) :: (da, ArI Z .byte dl) :: F) 62 #[.val (.ref p), .val (.int (5 + dl.length).toInt32), .val (.ref ou)] [(.int (if c = 1 ∨ c = 2 then 1 else 0))]
    rw [if_pos hc]
    show Go Z k 1 305 ((ou, ArI Z .byte ((c.toInt8.toInt32) :: (id0.toInt8.toInt32) :: ((((5 + dl.length).toInt32.toUInt32 >>> ((8 : Int32) &&& 31).toUInt32).toInt32).toInt8.toInt32) :: ((5 + dl.length).toInt32.toInt8.toInt32) :: 0 :: List.replicate dl.length 0)) :: (p, Obj Z "com/example/quintet/quintet/EapPacket" [("com/example/quintet/quintet/EapPacket", "code", "I", (.int c)), ("com/example/quintet/quintet/EapPacket", "identifier", "I", (.int id0)), ("com/example/quintet/quintet/EapPacket", "type", "I", (.int ty0)), ("com/example/quintet/quintet/EapPacket", "data", "[B", (.ref da))]) :: (da, ArI Z .byte dl) :: F) 62 #[.val (.ref p), .val (.int (5 + dl.length).toInt32), .val (.ref ou)] [(.int (1 : Int32))]
    refine s_if H d5_62 (py := 88) (pc' := 65) z_eq (by decide) rfl (fun c62 => ?_) (fun c62 => ?_)
    · exact absurd c62 (by decide)
    · refine s_aloadn H d5_65 rfl rfl (pc' := 66) rfl ?_
      refine s_iconst H d5_66 (z := (4 : Int32)) (by decide) (pc' := 67) rfl ?_
      refine s_aloadn H d5_67 rfl rfl (pc' := 68) rfl ?_
      refine s_getf H d5_68 (mem (i := 23) rfl) (i := 1) (j := 2) rfl rfl (pc' := 71) rfl ?_
      refine s_i2b H d5_71 (pc' := 72) rfl ?_
      refine s_bastore H d5_72 (i := 0) rfl (by decide) (jn := 4) (by decide) (by simp) (x := (ty0.toInt8.toInt32)) (nar_i8 _).symm (pc' := 73) rfl ?_
      show Go Z k 1 305 ((ou, ArI Z .byte ((c.toInt8.toInt32) :: (id0.toInt8.toInt32) :: ((((5 + dl.length).toInt32.toUInt32 >>> ((8 : Int32) &&& 31).toUInt32).toInt32).toInt8.toInt32) :: ((5 + dl.length).toInt32.toInt8.toInt32) :: (ty0.toInt8.toInt32) :: List.replicate dl.length 0)) :: (p, Obj Z "com/example/quintet/quintet/EapPacket" [("com/example/quintet/quintet/EapPacket", "code", "I", (.int c)), ("com/example/quintet/quintet/EapPacket", "identifier", "I", (.int id0)), ("com/example/quintet/quintet/EapPacket", "type", "I", (.int ty0)), ("com/example/quintet/quintet/EapPacket", "data", "[B", (.ref da))]) :: (da, ArI Z .byte dl) :: F) 73 #[.val (.ref p), .val (.int (5 + dl.length).toInt32), .val (.ref ou)] []
      refine s_aloadn H d5_73 rfl rfl (pc' := 74) rfl ?_
      refine s_getf H d5_74 (mem (i := 25) rfl) (i := 1) (j := 3) rfl rfl (pc' := 77) rfl ?_
      refine s_iconst H d5_77 (z := (0 : Int32)) (by decide) (pc' := 78) rfl ?_
      refine s_aloadn H d5_78 rfl rfl (pc' := 79) rfl ?_
      refine s_iconst H d5_79 (z := (5 : Int32)) (by decide) (pc' := 80) rfl ?_
      refine s_aloadn H d5_80 rfl rfl (pc' := 81) rfl ?_
      refine s_getf H d5_81 (mem (i := 25) rfl) (i := 1) (j := 3) rfl rfl (pc' := 84) rfl ?_
      refine s_alenI H d5_84 (i := 2) rfl (z := dl.length.toInt32) rfl (pc' := 85) rfl ?_
      refine s_acopy_I H (0) (5) (dl.length) d5_85 (mem (i := 35) rfl) (mem (i := 38) rfl) (mem (i := 36) rfl) (mem (i := 37) rfl) (i := 2) (j := 0) rfl rfl rfl rfl rfl rfl (by omega) (by simp; omega) rfl (by decide) (Nat.le_of_ble_eq_true rfl) (pc' := 88) rfl ?_
      rw [own_cpy dl (List.replicate dl.length 0) (by simp)]
      show Go Z k 1 305 ((ou, ArI Z .byte ((c.toInt8.toInt32) :: (id0.toInt8.toInt32) :: ((((5 + dl.length).toInt32.toUInt32 >>> ((8 : Int32) &&& 31).toUInt32).toInt32).toInt8.toInt32) :: ((5 + dl.length).toInt32.toInt8.toInt32) :: (ty0.toInt8.toInt32) :: dl)) :: (p, Obj Z "com/example/quintet/quintet/EapPacket" [("com/example/quintet/quintet/EapPacket", "code", "I", (.int c)), ("com/example/quintet/quintet/EapPacket", "identifier", "I", (.int id0)), ("com/example/quintet/quintet/EapPacket", "type", "I", (.int ty0)), ("com/example/quintet/quintet/EapPacket", "data", "[B", (.ref da))]) :: (da, ArI Z .byte dl) :: F) 88 #[.val (.ref p), .val (.int (5 + dl.length).toInt32), .val (.ref ou)] []
      refine s_aloadn H d5_88 rfl rfl (pc' := 89) rfl ?_
      exact s_aret H d5_89 rfl rfl (by decide) (by decide) (⟨ou, rfl, rfl⟩)
set_option maxRecDepth 65536 in
set_option maxHeartbeats 40000000 in
theorem met_byf {Z : State} (HT : Tb Z) {F : Hp} (p da : Addr) (c id0 ty0 : Int32) (dl : List Int32) (hc : ¬ (c = 1 ∨ c = 2)) : Met Z y_5 prog_17_method_5_code 3 (some (.array .byte)) ({ frames := 1, cells := 1, slots := 4, locals := 12 } : Room) [(.ref p)] ((p, Obj Z "com/example/quintet/quintet/EapPacket" [("com/example/quintet/quintet/EapPacket", "code", "I", (.int c)), ("com/example/quintet/quintet/EapPacket", "identifier", "I", (.int id0)), ("com/example/quintet/quintet/EapPacket", "type", "I", (.int ty0)), ("com/example/quintet/quintet/EapPacket", "data", "[B", (.ref da))]) :: (da, ArI Z .byte dl) :: F) (fun v M' => ∃ ou : Addr, v = some (.ref ou) ∧ M' = ((ou, ArI Z .byte ([(c.toInt8.toInt32), (id0.toInt8.toInt32), ((((4 : Int32).toUInt32 >>> ((8 : Int32) &&& 31).toUInt32).toInt32).toInt8.toInt32), ((4 : Int32).toInt8.toInt32)] : List Int32)) :: (p, Obj Z "com/example/quintet/quintet/EapPacket" [("com/example/quintet/quintet/EapPacket", "code", "I", (.int c)), ("com/example/quintet/quintet/EapPacket", "identifier", "I", (.int id0)), ("com/example/quintet/quintet/EapPacket", "type", "I", (.int ty0)), ("com/example/quintet/quintet/EapPacket", "data", "[B", (.ref da))]) :: (da, ArI Z .byte dl) :: F)) := by
  refine Met.of HT pl_5 (Ls := #[.val (.ref p), .unset, .unset]) (fun m => by first | (simp [entryFrame, mkF, argsToLocals, Value.category]; done) | rfl) (fun k H => ?_)
  refine s_aloadn H d5_0 rfl rfl (pc' := 1) rfl ?_
  refine s_getf H d5_1 (mem (i := 19) rfl) (i := 0) (j := 0) rfl rfl (pc' := 4) rfl ?_
  refine s_static H (met_ty H.tb c) d5_4 (mem (i := 32) rfl) (mem (i := 33) rfl) (mem (i := 7) rfl) (mem (i := 34) rfl) (by decide) pd_6 rfl (rest := []) rfl rfl (by decide) (Nat.le_of_ble_eq_true rfl) (cn' := 0) (sn' := 0) rfl rfl (by decide) (by decide) (pc' := 7) rfl (fun _ _ hq => ?_)
  obtain ⟨rfl, rfl⟩ := hq
  show Go Z k 0 0 ((p, Obj Z "com/example/quintet/quintet/EapPacket" [("com/example/quintet/quintet/EapPacket", "code", "I", (.int c)), ("com/example/quintet/quintet/EapPacket", "identifier", "I", (.int id0)), ("com/example/quintet/quintet/EapPacket", "type", "I", (.int ty0)), ("com/example/quintet/quintet/EapPacket", "data", "[B", (.ref da))]) :: (da, ArI Z .byte dl) :: F) 7 #[.val (.ref p), .unset, .unset] [(.int (if c = 1 ∨ c = 2 then 1 else 0))]
  rw [if_neg hc]
  show Go Z k 0 0 ((p, Obj Z "com/example/quintet/quintet/EapPacket" [("com/example/quintet/quintet/EapPacket", "code", "I", (.int c)), ("com/example/quintet/quintet/EapPacket", "identifier", "I", (.int id0)), ("com/example/quintet/quintet/EapPacket", "type", "I", (.int ty0)), ("com/example/quintet/quintet/EapPacket", "data", "[B", (.ref da))]) :: (da, ArI Z .byte dl) :: F) 7 #[.val (.ref p), .unset, .unset] [(.int (0 : Int32))]
  refine s_if H d5_7 (py := 20) (pc' := 10) z_eq (by decide) rfl (fun c7 => ?_) (fun c7 => ?_)
  · refine s_iconst H d5_20 (z := (4 : Int32)) (by decide) (pc' := 21) rfl ?_
    refine s_istoren H d5_21 (L' := fun z => #[.val (.ref p), .val (.int z), .unset]) (fun _ => rfl) (pc' := 22) rfl (fun z0 hz => ?_)
    subst z0
    refine s_iloadn H d5_22 rfl (pc' := 23) rfl ?_
    refine s_newarr_byte H d5_23 (mem (i := 4) rfl) (by decide) (cap := 4) (by decide) (by decide) (cn' := 1) (sn' := 4) rfl rfl (by decide) (by decide) (pc' := 25) rfl (fun ou => ?_)
    show Go Z k 1 4 ((ou, ArI Z .byte ([(0 : Int32), (0 : Int32), (0 : Int32), (0 : Int32)] : List Int32)) :: (p, Obj Z "com/example/quintet/quintet/EapPacket" [("com/example/quintet/quintet/EapPacket", "code", "I", (.int c)), ("com/example/quintet/quintet/EapPacket", "identifier", "I", (.int id0)), ("com/example/quintet/quintet/EapPacket", "type", "I", (.int ty0)), ("com/example/quintet/quintet/EapPacket", "data", "[B", (.ref da))]) :: (da, ArI Z .byte dl) :: F) 25 #[.val (.ref p), .val (.int (4 : Int32)), .unset] [(.ref ou)]
    refine s_astoren H d5_25 (L' := #[.val (.ref p), .val (.int (4 : Int32)), .val (.ref ou)]) rfl rfl (pc' := 26) rfl ?_
    refine s_aloadn H d5_26 rfl rfl (pc' := 27) rfl ?_
    refine s_iconst H d5_27 (z := (0 : Int32)) (by decide) (pc' := 28) rfl ?_
    refine s_aloadn H d5_28 rfl rfl (pc' := 29) rfl ?_
    refine s_getf H d5_29 (mem (i := 19) rfl) (i := 1) (j := 0) rfl rfl (pc' := 32) rfl ?_
    refine s_i2b H d5_32 (pc' := 33) rfl ?_
    refine s_bastore H d5_33 (i := 0) rfl (by decide) (jn := 0) (by decide) (Nat.le_of_ble_eq_true rfl) (x := (c.toInt8.toInt32)) (nar_i8 _).symm (pc' := 34) rfl ?_
    show Go Z k 1 4 ((ou, ArI Z .byte ([(c.toInt8.toInt32), (0 : Int32), (0 : Int32), (0 : Int32)] : List Int32)) :: (p, Obj Z "com/example/quintet/quintet/EapPacket" [("com/example/quintet/quintet/EapPacket", "code", "I", (.int c)), ("com/example/quintet/quintet/EapPacket", "identifier", "I", (.int id0)), ("com/example/quintet/quintet/EapPacket", "type", "I", (.int ty0)), ("com/example/quintet/quintet/EapPacket", "data", "[B", (.ref da))]) :: (da, ArI Z .byte dl) :: F) 34 #[.val (.ref p), .val (.int (4 : Int32)), .val (.ref ou)] []
    refine s_aloadn H d5_34 rfl rfl (pc' := 35) rfl ?_
    refine s_iconst H d5_35 (z := (1 : Int32)) (by decide) (pc' := 36) rfl ?_
    refine s_aloadn H d5_36 rfl rfl (pc' := 37) rfl ?_
    refine s_getf H d5_37 (mem (i := 21) rfl) (i := 1) (j := 1) rfl rfl (pc' := 40) rfl ?_
    refine s_i2b H d5_40 (pc' := 41) rfl ?_
    refine s_bastore H d5_41 (i := 0) rfl (by decide) (jn := 1) (by decide) (Nat.le_of_ble_eq_true rfl) (x := (id0.toInt8.toInt32)) (nar_i8 _).symm (pc' := 42) rfl ?_
    show Go Z k 1 4 ((ou, ArI Z .byte ([(c.toInt8.toInt32), (id0.toInt8.toInt32), (0 : Int32), (0 : Int32)] : List Int32)) :: (p, Obj Z "com/example/quintet/quintet/EapPacket" [("com/example/quintet/quintet/EapPacket", "code", "I", (.int c)), ("com/example/quintet/quintet/EapPacket", "identifier", "I", (.int id0)), ("com/example/quintet/quintet/EapPacket", "type", "I", (.int ty0)), ("com/example/quintet/quintet/EapPacket", "data", "[B", (.ref da))]) :: (da, ArI Z .byte dl) :: F) 42 #[.val (.ref p), .val (.int (4 : Int32)), .val (.ref ou)] []
    refine s_aloadn H d5_42 rfl rfl (pc' := 43) rfl ?_
    refine s_iconst H d5_43 (z := (2 : Int32)) (by decide) (pc' := 44) rfl ?_
    refine s_iloadn H d5_44 rfl (pc' := 45) rfl ?_
    refine s_bipush H d5_45 (z := (8 : Int32)) (by decide) (pc' := 47) rfl ?_
    refine s_iushr H d5_47 (pc' := 48) rfl ?_
    refine s_i2b H d5_48 (pc' := 49) rfl ?_
    refine s_bastore H d5_49 (i := 0) rfl (by decide) (jn := 2) (by decide) (Nat.le_of_ble_eq_true rfl) (x := ((((4 : Int32).toUInt32 >>> ((8 : Int32) &&& 31).toUInt32).toInt32).toInt8.toInt32)) (nar_i8 _).symm (pc' := 50) rfl ?_
    show Go Z k 1 4 ((ou, ArI Z .byte ([(c.toInt8.toInt32), (id0.toInt8.toInt32), ((((4 : Int32).toUInt32 >>> ((8 : Int32) &&& 31).toUInt32).toInt32).toInt8.toInt32), (0 : Int32)] : List Int32)) :: (p, Obj Z "com/example/quintet/quintet/EapPacket" [("com/example/quintet/quintet/EapPacket", "code", "I", (.int c)), ("com/example/quintet/quintet/EapPacket", "identifier", "I", (.int id0)), ("com/example/quintet/quintet/EapPacket", "type", "I", (.int ty0)), ("com/example/quintet/quintet/EapPacket", "data", "[B", (.ref da))]) :: (da, ArI Z .byte dl) :: F) 50 #[.val (.ref p), .val (.int (4 : Int32)), .val (.ref ou)] []
    refine s_aloadn H d5_50 rfl rfl (pc' := 51) rfl ?_
    refine s_iconst H d5_51 (z := (3 : Int32)) (by decide) (pc' := 52) rfl ?_
    refine s_iloadn H d5_52 rfl (pc' := 53) rfl ?_
    refine s_i2b H d5_53 (pc' := 54) rfl ?_
    refine s_bastore H d5_54 (i := 0) rfl (by decide) (jn := 3) (by decide) (Nat.le_of_ble_eq_true rfl) (x := ((4 : Int32).toInt8.toInt32)) (nar_i8 _).symm (pc' := 55) rfl ?_
    show Go Z k 1 4 ((ou, ArI Z .byte ([(c.toInt8.toInt32), (id0.toInt8.toInt32), ((((4 : Int32).toUInt32 >>> ((8 : Int32) &&& 31).toUInt32).toInt32).toInt8.toInt32), ((4 : Int32).toInt8.toInt32)] : List Int32)) :: (p, Obj Z "com/example/quintet/quintet/EapPacket" [("com/example/quintet/quintet/EapPacket", "code", "I", (.int c)), ("com/example/quintet/quintet/EapPacket", "identifier", "I", (.int id0)), ("com/example/quintet/quintet/EapPacket", "type", "I", (.int ty0)), ("com/example/quintet/quintet/EapPacket", "data", "[B", (.ref da))]) :: (da, ArI Z .byte dl) :: F) 55 #[.val (.ref p), .val (.int (4 : Int32)), .val (.ref ou)] []
    refine s_aloadn H d5_55 rfl rfl (pc' := 56) rfl ?_
    refine s_getf H d5_56 (mem (i := 19) rfl) (i := 1) (j := 0) rfl rfl (pc' := 59) rfl ?_
    refine s_static H (met_ty H.tb c) d5_59 (mem (i := 32) rfl) (mem (i := 33) rfl) (mem (i := 7) rfl) (mem (i := 34) rfl) (by decide) pd_6 rfl (rest := []) rfl rfl (by decide) (Nat.le_of_ble_eq_true rfl) (cn' := 1) (sn' := 4) rfl rfl (by decide) (by decide) (pc' := 62) rfl (fun _ _ hq => ?_)
    obtain ⟨rfl, rfl⟩ := hq
    show Go Z k 1 4 ((ou, ArI Z .byte ([(c.toInt8.toInt32), (id0.toInt8.toInt32), ((((4 : Int32).toUInt32 >>> ((8 : Int32) &&& 31).toUInt32).toInt32).toInt8.toInt32), ((4 : Int32).toInt8.toInt32)] : List Int32)) :: (p, Obj Z "com/example/quintet/quintet/EapPacket" [("com/example/quintet/quintet/EapPacket", "code", "I", (.int c)), ("com/example/quintet/quintet/EapPacket", "identifier", "I", (.int id0)), ("com/example/quintet/quintet/EapPacket", "type", "I", (.int ty0)), ("com/example/quintet/quintet/EapPacket", "data", "[B", (.ref da))]) :: (da, ArI Z .byte dl) :: F) 62 #[.val (.ref p), .val (.int (4 : Int32)), .val (.ref ou)] [(.int (if c = 1 ∨ c = 2 then 1 else 0))]
    rw [if_neg hc]
    show Go Z k 1 4 ((ou, ArI Z .byte ([(c.toInt8.toInt32), (id0.toInt8.toInt32), ((((4 : Int32).toUInt32 >>> ((8 : Int32) &&& 31).toUInt32).toInt32).toInt8.toInt32), ((4 : Int32).toInt8.toInt32)] : List Int32)) :: (p, Obj Z "com/example/quintet/quintet/EapPacket" [("com/example/quintet/quintet/EapPacket", "code", "I", (.int c)), ("com/example/quintet/quintet/EapPacket", "identifier", "I", (.int id0)), ("com/example/quintet/quintet/EapPacket", "type", "I", (.int ty0)), ("com/example/quintet/quintet/EapPacket", "data", "[B", (.ref da))]) :: (da, ArI Z .byte dl) :: F) 62 #[.val (.ref p), .val (.int (4 : Int32)), .val (.ref ou)] [(.int (0 : Int32))]
    refine s_if H d5_62 (py := 88) (pc' := 65) z_eq (by decide) rfl (fun c62 => ?_) (fun c62 => ?_)
    · refine s_aloadn H d5_88 rfl rfl (pc' := 89) rfl ?_
      exact s_aret H d5_89 rfl rfl (by decide) (by decide) (⟨ou, rfl, rfl⟩)
    · exact absurd c62 (by decide)
  · exact absurd c7 (by decide)
theorem own_len16 : ∀ n : Fin 310, ((((((((n.val).toInt32.toUInt32 >>> ((8 : Int32) &&& 31).toUInt32).toInt32).toInt8.toInt32) &&& 255) <<< ((8 : Int32) &&& 31)) ||| (((n.val).toInt32.toInt8.toInt32) &&& 255))) = (n.val).toInt32 := by decide +kernel
set_option maxRecDepth 65536 in
set_option maxHeartbeats 40000000 in
theorem s36_0_1 {Z : State} {k : Cx} {i0 i1 i2 i3 d0 d1 d2 : Int32} {i4 : Int64} (H : Ok Z k room_1 (LQ) x code maxLocals ret) (h0 : nar .byte d0 = d0) (h1 : nar .byte d1 = d1) (h2 : nar .byte d2 = d2) : Go Z k 0 0 ([] : Hp) 36 #[.val (.int i0), .val (.int i1), .val (.int i2), .val (.int i3), .val (.long i4), .second, .val (.int (1 : Int32)), .val (.int (0 : Int32)), .val (.int d0), .val (.int d1), .val (.int d2), .unset, .unset, .unset, .unset, .unset, .unset] [] := by
  refine s_iload H at_36 rfl (pc' := 38) rfl ?_
  refine s_iload H at_38 rfl (pc' := 40) rfl ?_
  refine s_iload H at_40 rfl (pc' := 42) rfl ?_
  refine s_iload H at_42 rfl (pc' := 44) rfl ?_
  refine s_static H (met_md0 H.tb d0 d1 d2 h0 h1 h2) at_44 (mem (i := 0) rfl) (mem (i := 1) rfl) (mem (i := 2) rfl) (mem (i := 3) rfl) (by decide) pd_1 rfl (rest := []) rfl rfl (by decide) (Nat.le_of_ble_eq_true rfl) (cn' := 1) (sn' := 0) rfl rfl (by decide) (by decide) (pc' := 47) rfl (fun _ _ hq => ?_)
  obtain ⟨da, rfl, rfl⟩ := hq
  show Go Z k 1 0 ((da, ArI Z .byte ([] : List Int32)) :: []) 47 #[.val (.int i0), .val (.int i1), .val (.int i2), .val (.int i3), .val (.long i4), .second, .val (.int (1 : Int32)), .val (.int (0 : Int32)), .val (.int d0), .val (.int d1), .val (.int d2), .unset, .unset, .unset, .unset, .unset, .unset] [(.ref da)]
  refine s_astore H at_47 (L' := #[.val (.int i0), .val (.int i1), .val (.int i2), .val (.int i3), .val (.long i4), .second, .val (.int (1 : Int32)), .val (.int (0 : Int32)), .val (.int d0), .val (.int d1), .val (.int d2), .val (.ref da), .unset, .unset, .unset, .unset, .unset]) rfl rfl (pc' := 49) rfl ?_
  refine s_aload H at_49 rfl rfl (pc' := 51) rfl ?_
  refine s_alenI H at_51 (i := 0) rfl (z := (0 : Int32)) rfl (pc' := 52) rfl ?_
  refine s_istore H at_52 (L' := fun z => #[.val (.int i0), .val (.int i1), .val (.int i2), .val (.int i3), .val (.long i4), .second, .val (.int (1 : Int32)), .val (.int (0 : Int32)), .val (.int d0), .val (.int d1), .val (.int d2), .val (.ref da), .val (.int z), .unset, .unset, .unset, .unset]) (fun _ => rfl) (pc' := 54) rfl (fun z0 hz => ?_)
  subst z0
  refine s_new H (C := "com/example/quintet/quintet/EapPacket") [("com/example/quintet/quintet/EapPacket", "code", "I", (.int (0 : Int32))), ("com/example/quintet/quintet/EapPacket", "identifier", "I", (.int (0 : Int32))), ("com/example/quintet/quintet/EapPacket", "type", "I", (.int (0 : Int32))), ("com/example/quintet/quintet/EapPacket", "data", "[B", .null)] at_54 (mem (i := 5) rfl) (mem (i := 6) rfl) (mem (i := 7) rfl) (allC ⟨Or.inr (mem (i := 20) rfl), .int, by decide, rfl⟩ (allC ⟨Or.inr (mem (i := 22) rfl), .int, by decide, rfl⟩ (allC ⟨Or.inr (mem (i := 24) rfl), .int, by decide, rfl⟩ (allC ⟨Or.inr (mem (i := 26) rfl), (.array .byte), by decide, rfl⟩ allN)))) (by decide) (cn' := 2) (sn' := 4) rfl rfl (by decide) (by decide) (pc' := 57) rfl (fun a1 => ?_)
  refine s_dup H at_57 rfl (pc' := 58) rfl ?_
  refine s_iload H at_58 rfl (pc' := 60) rfl ?_
  refine s_iloadn H at_60 rfl (pc' := 61) rfl ?_
  refine s_iloadn H at_61 rfl (pc' := 62) rfl ?_
  refine s_aload H at_62 rfl rfl (pc' := 64) rfl ?_
  refine s_init H (met_ei H.tb a1 da (1 : Int32) i1 i2) at_64 rfl (mem (i := 8) rfl) (mem (i := 9) rfl) (mem (i := 7) rfl) (mem (i := 10) rfl) (by decide) pd_2 rfl (rest := [(.ref a1)]) rfl rfl (by decide) (Nat.le_of_ble_eq_true rfl) (cn' := 2) (sn' := 4) rfl rfl (by decide) (by decide) (pc' := 67) rfl (fun _ _ hq => ?_)
  obtain ⟨rfl, rfl⟩ := hq
  show Go Z k 2 4 ((a1, Obj Z "com/example/quintet/quintet/EapPacket" [("com/example/quintet/quintet/EapPacket", "code", "I", (.int (1 : Int32))), ("com/example/quintet/quintet/EapPacket", "identifier", "I", (.int i1)), ("com/example/quintet/quintet/EapPacket", "type", "I", (.int i2)), ("com/example/quintet/quintet/EapPacket", "data", "[B", (.ref da))]) :: (da, ArI Z .byte ([] : List Int32)) :: []) 67 #[.val (.int i0), .val (.int i1), .val (.int i2), .val (.int i3), .val (.long i4), .second, .val (.int (1 : Int32)), .val (.int (0 : Int32)), .val (.int d0), .val (.int d1), .val (.int d2), .val (.ref da), .val (.int (0 : Int32)), .unset, .unset, .unset, .unset] [(.ref a1)]
  refine s_astore H at_67 (L' := #[.val (.int i0), .val (.int i1), .val (.int i2), .val (.int i3), .val (.long i4), .second, .val (.int (1 : Int32)), .val (.int (0 : Int32)), .val (.int d0), .val (.int d1), .val (.int d2), .val (.ref da), .val (.int (0 : Int32)), .val (.ref a1), .unset, .unset, .unset]) rfl rfl (pc' := 69) rfl ?_
  refine s_aload H at_69 rfl rfl (pc' := 71) rfl ?_
  refine s_virtual H (met_byt H.tb a1 da (1 : Int32) i1 i2 ([] : List Int32) (by decide) (Nat.le_of_ble_eq_true rfl)) at_71 (i := 0) rfl (mem (i := 27) rfl) (mem (i := 28) rfl) (mem (i := 30) rfl) (mem (i := 29) rfl) (mem (i := 7) rfl) (mem (i := 31) rfl) (by decide) pd_5 rfl (rest := []) rfl rfl (by decide) (Nat.le_of_ble_eq_true rfl) (cn' := 3) (sn' := 309) rfl rfl (by decide) (by decide) (pc' := 74) rfl (fun _ _ hq => ?_)
  obtain ⟨ou, rfl, rfl⟩ := hq
  show Go Z k 3 309 ((ou, ArI Z .byte ([((1 : Int32).toInt8.toInt32), (i1.toInt8.toInt32), ((((5 : Nat).toInt32.toUInt32 >>> ((8 : Int32) &&& 31).toUInt32).toInt32).toInt8.toInt32), ((5 : Nat).toInt32.toInt8.toInt32), (i2.toInt8.toInt32)] : List Int32)) :: (a1, Obj Z "com/example/quintet/quintet/EapPacket" [("com/example/quintet/quintet/EapPacket", "code", "I", (.int (1 : Int32))), ("com/example/quintet/quintet/EapPacket", "identifier", "I", (.int i1)), ("com/example/quintet/quintet/EapPacket", "type", "I", (.int i2)), ("com/example/quintet/quintet/EapPacket", "data", "[B", (.ref da))]) :: (da, ArI Z .byte ([] : List Int32)) :: []) 74 #[.val (.int i0), .val (.int i1), .val (.int i2), .val (.int i3), .val (.long i4), .second, .val (.int (1 : Int32)), .val (.int (0 : Int32)), .val (.int d0), .val (.int d1), .val (.int d2), .val (.ref da), .val (.int (0 : Int32)), .val (.ref a1), .unset, .unset, .unset] [(.ref ou)]
  refine s_astore H at_74 (L' := #[.val (.int i0), .val (.int i1), .val (.int i2), .val (.int i3), .val (.long i4), .second, .val (.int (1 : Int32)), .val (.int (0 : Int32)), .val (.int d0), .val (.int d1), .val (.int d2), .val (.ref da), .val (.int (0 : Int32)), .val (.ref a1), .val (.ref ou), .unset, .unset]) rfl rfl (pc' := 76) rfl ?_
  refine s_iload H at_76 rfl (pc' := 78) rfl ?_
  refine s_iconst H at_78 (z := (1 : Int32)) (by decide) (pc' := 79) rfl ?_
  refine s_icmp H at_79 (py := 88) (pc' := 82) q_eq (by decide) rfl (fun c79 => ?_) (fun c79 => ?_)
  · refine s_iconst H at_88 (z := (1 : Int32)) (by decide) (pc' := 89) rfl ?_
    refine s_goto H at_89 (pc' := 93) (by decide) ?_
    refine s_istore H at_93 (L' := fun z => #[.val (.int i0), .val (.int i1), .val (.int i2), .val (.int i3), .val (.long i4), .second, .val (.int (1 : Int32)), .val (.int (0 : Int32)), .val (.int d0), .val (.int d1), .val (.int d2), .val (.ref da), .val (.int (0 : Int32)), .val (.ref a1), .val (.ref ou), .val (.int z), .unset]) (fun _ => rfl) (pc' := 95) rfl (fun z0 hz => ?_)
    subst z0
    refine s_iload H at_95 rfl (pc' := 97) rfl ?_
    refine s_if H at_97 (py := 107) (pc' := 100) z_eq (by decide) rfl (fun c97 => ?_) (fun c97 => ?_)
    · exact absurd c97 (by decide)
    · refine s_iconst H at_100 (z := (5 : Int32)) (by decide) (pc' := 101) rfl ?_
      refine s_iload H at_101 rfl (pc' := 103) rfl ?_
      refine s_iadd H at_103 (pc' := 104) rfl ?_
      refine s_goto H at_104 (pc' := 108) (by decide) ?_
      refine s_istore H at_108 (L' := fun z => #[.val (.int i0), .val (.int i1), .val (.int i2), .val (.int i3), .val (.long i4), .second, .val (.int (1 : Int32)), .val (.int (0 : Int32)), .val (.int d0), .val (.int d1), .val (.int d2), .val (.ref da), .val (.int (0 : Int32)), .val (.ref a1), .val (.ref ou), .val (.int (1 : Int32)), .val (.int z)]) (fun _ => rfl) (pc' := 110) rfl (fun z0 hz => ?_)
      subst z0
      refine s_aload H at_110 rfl rfl (pc' := 112) rfl ?_
      refine s_alenI H at_112 (i := 0) rfl (z := (5 : Int32)) rfl (pc' := 113) rfl ?_
      refine s_iload H at_113 rfl (pc' := 115) rfl ?_
      refine s_icmp H at_115 (py := 120) (pc' := 118) q_eq (by decide) rfl (fun c115 => ?_) (fun c115 => ?_)
      · refine s_aload H at_120 rfl rfl (pc' := 122) rfl ?_
        refine s_iconst H at_122 (z := (0 : Int32)) (by decide) (pc' := 123) rfl ?_
        refine s_baload H at_123 (i := 0) rfl (x := ((1 : Int32).toInt8.toInt32)) (by decide) (jn := 0) (by decide) rfl (pc' := 124) rfl ?_
        refine s_sipush H at_124 (z := (255 : Int32)) (by decide) (pc' := 127) rfl ?_
        refine s_iand H at_127 (pc' := 128) rfl ?_
        refine s_iload H at_128 rfl (pc' := 130) rfl ?_
        refine s_icmp H at_130 (py := 135) (pc' := 133) q_eq (by decide) rfl (fun c130 => ?_) (fun c130 => ?_)
        · refine s_aload H at_135 rfl rfl (pc' := 137) rfl ?_
          refine s_iconst H at_137 (z := (1 : Int32)) (by decide) (pc' := 138) rfl ?_
          refine s_baload H at_138 (i := 0) rfl (x := (i1.toInt8.toInt32)) (by decide) (jn := 1) (by decide) rfl (pc' := 139) rfl ?_
          refine s_sipush H at_139 (z := (255 : Int32)) (by decide) (pc' := 142) rfl ?_
          refine s_iand H at_142 (pc' := 143) rfl ?_
          refine s_iloadn H at_143 rfl (pc' := 144) rfl ?_
          refine s_sipush H at_144 (z := (255 : Int32)) (by decide) (pc' := 147) rfl ?_
          refine s_iand H at_147 (pc' := 148) rfl ?_
          refine s_icmp H at_148 (py := 153) (pc' := 151) q_eq (by decide) rfl (fun c148 => ?_) (fun c148 => ?_)
          · refine s_aload H at_153 rfl rfl (pc' := 155) rfl ?_
            refine s_iconst H at_155 (z := (2 : Int32)) (by decide) (pc' := 156) rfl ?_
            refine s_baload H at_156 (i := 0) rfl (x := ((((5 : Nat).toInt32.toUInt32 >>> ((8 : Int32) &&& 31).toUInt32).toInt32).toInt8.toInt32)) (by decide) (jn := 2) (by decide) rfl (pc' := 157) rfl ?_
            refine s_sipush H at_157 (z := (255 : Int32)) (by decide) (pc' := 160) rfl ?_
            refine s_iand H at_160 (pc' := 161) rfl ?_
            refine s_bipush H at_161 (z := (8 : Int32)) (by decide) (pc' := 163) rfl ?_
            refine s_ishl H at_163 (pc' := 164) rfl ?_
            refine s_aload H at_164 rfl rfl (pc' := 166) rfl ?_
            refine s_iconst H at_166 (z := (3 : Int32)) (by decide) (pc' := 167) rfl ?_
            refine s_baload H at_167 (i := 0) rfl (x := ((5 : Nat).toInt32.toInt8.toInt32)) (by decide) (jn := 3) (by decide) rfl (pc' := 168) rfl ?_
            refine s_sipush H at_168 (z := (255 : Int32)) (by decide) (pc' := 171) rfl ?_
            refine s_iand H at_171 (pc' := 172) rfl ?_
            refine s_ior H at_172 (pc' := 173) rfl ?_
            refine s_iload H at_173 rfl (pc' := 175) rfl ?_
            refine s_icmp H at_175 (py := 180) (pc' := 178) q_eq (by decide) rfl (fun c175 => ?_) (fun c175 => ?_)
            · refine s_iload H at_180 rfl (pc' := 182) rfl ?_
              refine s_if H at_182 (py := 187) (pc' := 185) z_ne (by decide) rfl (fun c182 => ?_) (fun c182 => ?_)
              · refine s_aload H at_187 rfl rfl (pc' := 189) rfl ?_
                refine s_iconst H at_189 (z := (4 : Int32)) (by decide) (pc' := 190) rfl ?_
                refine s_baload H at_190 (i := 0) rfl (x := (i2.toInt8.toInt32)) (by decide) (jn := 4) (by decide) rfl (pc' := 191) rfl ?_
                refine s_sipush H at_191 (z := (255 : Int32)) (by decide) (pc' := 194) rfl ?_
                refine s_iand H at_194 (pc' := 195) rfl ?_
                refine s_iloadn H at_195 rfl (pc' := 196) rfl ?_
                refine s_sipush H at_196 (z := (255 : Int32)) (by decide) (pc' := 199) rfl ?_
                refine s_iand H at_199 (pc' := 200) rfl ?_
                refine s_icmp H at_200 (py := 205) (pc' := 203) q_eq (by decide) rfl (fun c200 => ?_) (fun c200 => ?_)
                · refine s_iload H at_205 rfl (pc' := 207) rfl ?_
                  refine s_iconst H at_207 (z := (3 : Int32)) (by decide) (pc' := 208) rfl ?_
                  refine s_icmp H at_208 (py := 218) (pc' := 211) q_le (by decide) rfl (fun c208 => ?_) (fun c208 => ?_)
                  · refine s_iload H at_218 rfl (pc' := 220) rfl ?_
                    refine s_iconst H at_220 (z := (1 : Int32)) (by decide) (pc' := 221) rfl ?_
                    refine s_icmp H at_221 (py := 235) (pc' := 224) q_lt (by decide) rfl (fun c221 => ?_) (fun c221 => ?_)
                    · refine s_iload H at_235 rfl (pc' := 237) rfl ?_
                      refine s_iconst H at_237 (z := (2 : Int32)) (by decide) (pc' := 238) rfl ?_
                      refine s_icmp H at_238 (py := 253) (pc' := 241) q_lt (by decide) rfl (fun c238 => ?_) (fun c238 => ?_)
                      · refine s_iload H at_253 rfl (pc' := 255) rfl ?_
                        refine s_iconst H at_255 (z := (3 : Int32)) (by decide) (pc' := 256) rfl ?_
                        refine s_icmp H at_256 (py := 271) (pc' := 259) q_lt (by decide) rfl (fun c256 => ?_) (fun c256 => ?_)
                        · refine s_iload H at_271 rfl (pc' := 273) rfl ?_
                          refine s_iconst H at_273 (z := (4 : Int32)) (by decide) (pc' := 274) rfl ?_
                          refine s_icmp H at_274 (py := 289) (pc' := 277) q_lt (by decide) rfl (fun c274 => ?_) (fun c274 => ?_)
                          · refine s_iconst H at_289 (z := (1 : Int32)) (by decide) (pc' := 290) rfl ?_
                            exact s_iret H at_290 rfl (by simp) (by decide) (by decide) (rfl)
                          · exact absurd c274 (by decide)
                        · exact absurd c256 (by decide)
                      · exact absurd c238 (by decide)
                    · exact absurd c221 (by decide)
                  · exact absurd c208 (by decide)
                · exact absurd (own_b255 i2) c200
              · exact absurd c182 (by decide)
            · exact absurd (own_len16 ⟨5, by decide⟩) c175
          · exact absurd (own_b255 i1) c148
        · exact absurd (by decide) c130
      · exact absurd c115 (by decide)
  · exact absurd c79 (by decide)
set_option maxRecDepth 65536 in
set_option maxHeartbeats 40000000 in
theorem s36_0_2 {Z : State} {k : Cx} {i0 i1 i2 i3 d0 d1 d2 : Int32} {i4 : Int64} (H : Ok Z k room_1 (LQ) x code maxLocals ret) (h0 : nar .byte d0 = d0) (h1 : nar .byte d1 = d1) (h2 : nar .byte d2 = d2) : Go Z k 0 0 ([] : Hp) 36 #[.val (.int i0), .val (.int i1), .val (.int i2), .val (.int i3), .val (.long i4), .second, .val (.int (2 : Int32)), .val (.int (0 : Int32)), .val (.int d0), .val (.int d1), .val (.int d2), .unset, .unset, .unset, .unset, .unset, .unset] [] := by
  refine s_iload H at_36 rfl (pc' := 38) rfl ?_
  refine s_iload H at_38 rfl (pc' := 40) rfl ?_
  refine s_iload H at_40 rfl (pc' := 42) rfl ?_
  refine s_iload H at_42 rfl (pc' := 44) rfl ?_
  refine s_static H (met_md0 H.tb d0 d1 d2 h0 h1 h2) at_44 (mem (i := 0) rfl) (mem (i := 1) rfl) (mem (i := 2) rfl) (mem (i := 3) rfl) (by decide) pd_1 rfl (rest := []) rfl rfl (by decide) (Nat.le_of_ble_eq_true rfl) (cn' := 1) (sn' := 0) rfl rfl (by decide) (by decide) (pc' := 47) rfl (fun _ _ hq => ?_)
  obtain ⟨da, rfl, rfl⟩ := hq
  show Go Z k 1 0 ((da, ArI Z .byte ([] : List Int32)) :: []) 47 #[.val (.int i0), .val (.int i1), .val (.int i2), .val (.int i3), .val (.long i4), .second, .val (.int (2 : Int32)), .val (.int (0 : Int32)), .val (.int d0), .val (.int d1), .val (.int d2), .unset, .unset, .unset, .unset, .unset, .unset] [(.ref da)]
  refine s_astore H at_47 (L' := #[.val (.int i0), .val (.int i1), .val (.int i2), .val (.int i3), .val (.long i4), .second, .val (.int (2 : Int32)), .val (.int (0 : Int32)), .val (.int d0), .val (.int d1), .val (.int d2), .val (.ref da), .unset, .unset, .unset, .unset, .unset]) rfl rfl (pc' := 49) rfl ?_
  refine s_aload H at_49 rfl rfl (pc' := 51) rfl ?_
  refine s_alenI H at_51 (i := 0) rfl (z := (0 : Int32)) rfl (pc' := 52) rfl ?_
  refine s_istore H at_52 (L' := fun z => #[.val (.int i0), .val (.int i1), .val (.int i2), .val (.int i3), .val (.long i4), .second, .val (.int (2 : Int32)), .val (.int (0 : Int32)), .val (.int d0), .val (.int d1), .val (.int d2), .val (.ref da), .val (.int z), .unset, .unset, .unset, .unset]) (fun _ => rfl) (pc' := 54) rfl (fun z0 hz => ?_)
  subst z0
  refine s_new H (C := "com/example/quintet/quintet/EapPacket") [("com/example/quintet/quintet/EapPacket", "code", "I", (.int (0 : Int32))), ("com/example/quintet/quintet/EapPacket", "identifier", "I", (.int (0 : Int32))), ("com/example/quintet/quintet/EapPacket", "type", "I", (.int (0 : Int32))), ("com/example/quintet/quintet/EapPacket", "data", "[B", .null)] at_54 (mem (i := 5) rfl) (mem (i := 6) rfl) (mem (i := 7) rfl) (allC ⟨Or.inr (mem (i := 20) rfl), .int, by decide, rfl⟩ (allC ⟨Or.inr (mem (i := 22) rfl), .int, by decide, rfl⟩ (allC ⟨Or.inr (mem (i := 24) rfl), .int, by decide, rfl⟩ (allC ⟨Or.inr (mem (i := 26) rfl), (.array .byte), by decide, rfl⟩ allN)))) (by decide) (cn' := 2) (sn' := 4) rfl rfl (by decide) (by decide) (pc' := 57) rfl (fun a1 => ?_)
  refine s_dup H at_57 rfl (pc' := 58) rfl ?_
  refine s_iload H at_58 rfl (pc' := 60) rfl ?_
  refine s_iloadn H at_60 rfl (pc' := 61) rfl ?_
  refine s_iloadn H at_61 rfl (pc' := 62) rfl ?_
  refine s_aload H at_62 rfl rfl (pc' := 64) rfl ?_
  refine s_init H (met_ei H.tb a1 da (2 : Int32) i1 i2) at_64 rfl (mem (i := 8) rfl) (mem (i := 9) rfl) (mem (i := 7) rfl) (mem (i := 10) rfl) (by decide) pd_2 rfl (rest := [(.ref a1)]) rfl rfl (by decide) (Nat.le_of_ble_eq_true rfl) (cn' := 2) (sn' := 4) rfl rfl (by decide) (by decide) (pc' := 67) rfl (fun _ _ hq => ?_)
  obtain ⟨rfl, rfl⟩ := hq
  show Go Z k 2 4 ((a1, Obj Z "com/example/quintet/quintet/EapPacket" [("com/example/quintet/quintet/EapPacket", "code", "I", (.int (2 : Int32))), ("com/example/quintet/quintet/EapPacket", "identifier", "I", (.int i1)), ("com/example/quintet/quintet/EapPacket", "type", "I", (.int i2)), ("com/example/quintet/quintet/EapPacket", "data", "[B", (.ref da))]) :: (da, ArI Z .byte ([] : List Int32)) :: []) 67 #[.val (.int i0), .val (.int i1), .val (.int i2), .val (.int i3), .val (.long i4), .second, .val (.int (2 : Int32)), .val (.int (0 : Int32)), .val (.int d0), .val (.int d1), .val (.int d2), .val (.ref da), .val (.int (0 : Int32)), .unset, .unset, .unset, .unset] [(.ref a1)]
  refine s_astore H at_67 (L' := #[.val (.int i0), .val (.int i1), .val (.int i2), .val (.int i3), .val (.long i4), .second, .val (.int (2 : Int32)), .val (.int (0 : Int32)), .val (.int d0), .val (.int d1), .val (.int d2), .val (.ref da), .val (.int (0 : Int32)), .val (.ref a1), .unset, .unset, .unset]) rfl rfl (pc' := 69) rfl ?_
  refine s_aload H at_69 rfl rfl (pc' := 71) rfl ?_
  refine s_virtual H (met_byt H.tb a1 da (2 : Int32) i1 i2 ([] : List Int32) (by decide) (Nat.le_of_ble_eq_true rfl)) at_71 (i := 0) rfl (mem (i := 27) rfl) (mem (i := 28) rfl) (mem (i := 30) rfl) (mem (i := 29) rfl) (mem (i := 7) rfl) (mem (i := 31) rfl) (by decide) pd_5 rfl (rest := []) rfl rfl (by decide) (Nat.le_of_ble_eq_true rfl) (cn' := 3) (sn' := 309) rfl rfl (by decide) (by decide) (pc' := 74) rfl (fun _ _ hq => ?_)
  obtain ⟨ou, rfl, rfl⟩ := hq
  show Go Z k 3 309 ((ou, ArI Z .byte ([((2 : Int32).toInt8.toInt32), (i1.toInt8.toInt32), ((((5 : Nat).toInt32.toUInt32 >>> ((8 : Int32) &&& 31).toUInt32).toInt32).toInt8.toInt32), ((5 : Nat).toInt32.toInt8.toInt32), (i2.toInt8.toInt32)] : List Int32)) :: (a1, Obj Z "com/example/quintet/quintet/EapPacket" [("com/example/quintet/quintet/EapPacket", "code", "I", (.int (2 : Int32))), ("com/example/quintet/quintet/EapPacket", "identifier", "I", (.int i1)), ("com/example/quintet/quintet/EapPacket", "type", "I", (.int i2)), ("com/example/quintet/quintet/EapPacket", "data", "[B", (.ref da))]) :: (da, ArI Z .byte ([] : List Int32)) :: []) 74 #[.val (.int i0), .val (.int i1), .val (.int i2), .val (.int i3), .val (.long i4), .second, .val (.int (2 : Int32)), .val (.int (0 : Int32)), .val (.int d0), .val (.int d1), .val (.int d2), .val (.ref da), .val (.int (0 : Int32)), .val (.ref a1), .unset, .unset, .unset] [(.ref ou)]
  refine s_astore H at_74 (L' := #[.val (.int i0), .val (.int i1), .val (.int i2), .val (.int i3), .val (.long i4), .second, .val (.int (2 : Int32)), .val (.int (0 : Int32)), .val (.int d0), .val (.int d1), .val (.int d2), .val (.ref da), .val (.int (0 : Int32)), .val (.ref a1), .val (.ref ou), .unset, .unset]) rfl rfl (pc' := 76) rfl ?_
  refine s_iload H at_76 rfl (pc' := 78) rfl ?_
  refine s_iconst H at_78 (z := (1 : Int32)) (by decide) (pc' := 79) rfl ?_
  refine s_icmp H at_79 (py := 88) (pc' := 82) q_eq (by decide) rfl (fun c79 => ?_) (fun c79 => ?_)
  · exact absurd c79 (by decide)
  · refine s_iload H at_82 rfl (pc' := 84) rfl ?_
    refine s_iconst H at_84 (z := (2 : Int32)) (by decide) (pc' := 85) rfl ?_
    refine s_icmp H at_85 (py := 92) (pc' := 88) q_ne (by decide) rfl (fun c85 => ?_) (fun c85 => ?_)
    · exact absurd c85 (by decide)
    · refine s_iconst H at_88 (z := (1 : Int32)) (by decide) (pc' := 89) rfl ?_
      refine s_goto H at_89 (pc' := 93) (by decide) ?_
      refine s_istore H at_93 (L' := fun z => #[.val (.int i0), .val (.int i1), .val (.int i2), .val (.int i3), .val (.long i4), .second, .val (.int (2 : Int32)), .val (.int (0 : Int32)), .val (.int d0), .val (.int d1), .val (.int d2), .val (.ref da), .val (.int (0 : Int32)), .val (.ref a1), .val (.ref ou), .val (.int z), .unset]) (fun _ => rfl) (pc' := 95) rfl (fun z0 hz => ?_)
      subst z0
      refine s_iload H at_95 rfl (pc' := 97) rfl ?_
      refine s_if H at_97 (py := 107) (pc' := 100) z_eq (by decide) rfl (fun c97 => ?_) (fun c97 => ?_)
      · exact absurd c97 (by decide)
      · refine s_iconst H at_100 (z := (5 : Int32)) (by decide) (pc' := 101) rfl ?_
        refine s_iload H at_101 rfl (pc' := 103) rfl ?_
        refine s_iadd H at_103 (pc' := 104) rfl ?_
        refine s_goto H at_104 (pc' := 108) (by decide) ?_
        refine s_istore H at_108 (L' := fun z => #[.val (.int i0), .val (.int i1), .val (.int i2), .val (.int i3), .val (.long i4), .second, .val (.int (2 : Int32)), .val (.int (0 : Int32)), .val (.int d0), .val (.int d1), .val (.int d2), .val (.ref da), .val (.int (0 : Int32)), .val (.ref a1), .val (.ref ou), .val (.int (1 : Int32)), .val (.int z)]) (fun _ => rfl) (pc' := 110) rfl (fun z0 hz => ?_)
        subst z0
        refine s_aload H at_110 rfl rfl (pc' := 112) rfl ?_
        refine s_alenI H at_112 (i := 0) rfl (z := (5 : Int32)) rfl (pc' := 113) rfl ?_
        refine s_iload H at_113 rfl (pc' := 115) rfl ?_
        refine s_icmp H at_115 (py := 120) (pc' := 118) q_eq (by decide) rfl (fun c115 => ?_) (fun c115 => ?_)
        · refine s_aload H at_120 rfl rfl (pc' := 122) rfl ?_
          refine s_iconst H at_122 (z := (0 : Int32)) (by decide) (pc' := 123) rfl ?_
          refine s_baload H at_123 (i := 0) rfl (x := ((2 : Int32).toInt8.toInt32)) (by decide) (jn := 0) (by decide) rfl (pc' := 124) rfl ?_
          refine s_sipush H at_124 (z := (255 : Int32)) (by decide) (pc' := 127) rfl ?_
          refine s_iand H at_127 (pc' := 128) rfl ?_
          refine s_iload H at_128 rfl (pc' := 130) rfl ?_
          refine s_icmp H at_130 (py := 135) (pc' := 133) q_eq (by decide) rfl (fun c130 => ?_) (fun c130 => ?_)
          · refine s_aload H at_135 rfl rfl (pc' := 137) rfl ?_
            refine s_iconst H at_137 (z := (1 : Int32)) (by decide) (pc' := 138) rfl ?_
            refine s_baload H at_138 (i := 0) rfl (x := (i1.toInt8.toInt32)) (by decide) (jn := 1) (by decide) rfl (pc' := 139) rfl ?_
            refine s_sipush H at_139 (z := (255 : Int32)) (by decide) (pc' := 142) rfl ?_
            refine s_iand H at_142 (pc' := 143) rfl ?_
            refine s_iloadn H at_143 rfl (pc' := 144) rfl ?_
            refine s_sipush H at_144 (z := (255 : Int32)) (by decide) (pc' := 147) rfl ?_
            refine s_iand H at_147 (pc' := 148) rfl ?_
            refine s_icmp H at_148 (py := 153) (pc' := 151) q_eq (by decide) rfl (fun c148 => ?_) (fun c148 => ?_)
            · refine s_aload H at_153 rfl rfl (pc' := 155) rfl ?_
              refine s_iconst H at_155 (z := (2 : Int32)) (by decide) (pc' := 156) rfl ?_
              refine s_baload H at_156 (i := 0) rfl (x := ((((5 : Nat).toInt32.toUInt32 >>> ((8 : Int32) &&& 31).toUInt32).toInt32).toInt8.toInt32)) (by decide) (jn := 2) (by decide) rfl (pc' := 157) rfl ?_
              refine s_sipush H at_157 (z := (255 : Int32)) (by decide) (pc' := 160) rfl ?_
              refine s_iand H at_160 (pc' := 161) rfl ?_
              refine s_bipush H at_161 (z := (8 : Int32)) (by decide) (pc' := 163) rfl ?_
              refine s_ishl H at_163 (pc' := 164) rfl ?_
              refine s_aload H at_164 rfl rfl (pc' := 166) rfl ?_
              refine s_iconst H at_166 (z := (3 : Int32)) (by decide) (pc' := 167) rfl ?_
              refine s_baload H at_167 (i := 0) rfl (x := ((5 : Nat).toInt32.toInt8.toInt32)) (by decide) (jn := 3) (by decide) rfl (pc' := 168) rfl ?_
              refine s_sipush H at_168 (z := (255 : Int32)) (by decide) (pc' := 171) rfl ?_
              refine s_iand H at_171 (pc' := 172) rfl ?_
              refine s_ior H at_172 (pc' := 173) rfl ?_
              refine s_iload H at_173 rfl (pc' := 175) rfl ?_
              refine s_icmp H at_175 (py := 180) (pc' := 178) q_eq (by decide) rfl (fun c175 => ?_) (fun c175 => ?_)
              · refine s_iload H at_180 rfl (pc' := 182) rfl ?_
                refine s_if H at_182 (py := 187) (pc' := 185) z_ne (by decide) rfl (fun c182 => ?_) (fun c182 => ?_)
                · refine s_aload H at_187 rfl rfl (pc' := 189) rfl ?_
                  refine s_iconst H at_189 (z := (4 : Int32)) (by decide) (pc' := 190) rfl ?_
                  refine s_baload H at_190 (i := 0) rfl (x := (i2.toInt8.toInt32)) (by decide) (jn := 4) (by decide) rfl (pc' := 191) rfl ?_
                  refine s_sipush H at_191 (z := (255 : Int32)) (by decide) (pc' := 194) rfl ?_
                  refine s_iand H at_194 (pc' := 195) rfl ?_
                  refine s_iloadn H at_195 rfl (pc' := 196) rfl ?_
                  refine s_sipush H at_196 (z := (255 : Int32)) (by decide) (pc' := 199) rfl ?_
                  refine s_iand H at_199 (pc' := 200) rfl ?_
                  refine s_icmp H at_200 (py := 205) (pc' := 203) q_eq (by decide) rfl (fun c200 => ?_) (fun c200 => ?_)
                  · refine s_iload H at_205 rfl (pc' := 207) rfl ?_
                    refine s_iconst H at_207 (z := (3 : Int32)) (by decide) (pc' := 208) rfl ?_
                    refine s_icmp H at_208 (py := 218) (pc' := 211) q_le (by decide) rfl (fun c208 => ?_) (fun c208 => ?_)
                    · refine s_iload H at_218 rfl (pc' := 220) rfl ?_
                      refine s_iconst H at_220 (z := (1 : Int32)) (by decide) (pc' := 221) rfl ?_
                      refine s_icmp H at_221 (py := 235) (pc' := 224) q_lt (by decide) rfl (fun c221 => ?_) (fun c221 => ?_)
                      · refine s_iload H at_235 rfl (pc' := 237) rfl ?_
                        refine s_iconst H at_237 (z := (2 : Int32)) (by decide) (pc' := 238) rfl ?_
                        refine s_icmp H at_238 (py := 253) (pc' := 241) q_lt (by decide) rfl (fun c238 => ?_) (fun c238 => ?_)
                        · refine s_iload H at_253 rfl (pc' := 255) rfl ?_
                          refine s_iconst H at_255 (z := (3 : Int32)) (by decide) (pc' := 256) rfl ?_
                          refine s_icmp H at_256 (py := 271) (pc' := 259) q_lt (by decide) rfl (fun c256 => ?_) (fun c256 => ?_)
                          · refine s_iload H at_271 rfl (pc' := 273) rfl ?_
                            refine s_iconst H at_273 (z := (4 : Int32)) (by decide) (pc' := 274) rfl ?_
                            refine s_icmp H at_274 (py := 289) (pc' := 277) q_lt (by decide) rfl (fun c274 => ?_) (fun c274 => ?_)
                            · refine s_iconst H at_289 (z := (1 : Int32)) (by decide) (pc' := 290) rfl ?_
                              exact s_iret H at_290 rfl (by simp) (by decide) (by decide) (rfl)
                            · exact absurd c274 (by decide)
                          · exact absurd c256 (by decide)
                        · exact absurd c238 (by decide)
                      · exact absurd c221 (by decide)
                    · exact absurd c208 (by decide)
                  · exact absurd (own_b255 i2) c200
                · exact absurd c182 (by decide)
              · exact absurd (own_len16 ⟨5, by decide⟩) c175
            · exact absurd (own_b255 i1) c148
          · exact absurd (by decide) c130
        · exact absurd c115 (by decide)
set_option maxRecDepth 65536 in
set_option maxHeartbeats 40000000 in
theorem s36_0_x {Z : State} {k : Cx} {i0 i1 i2 i3 d0 d1 d2 cc : Int32} {i4 : Int64} (H : Ok Z k room_1 (LQ) x code maxLocals ret) (h0 : nar .byte d0 = d0) (h1 : nar .byte d1 = d1) (h2 : nar .byte d2 = d2) (hc : ¬ (cc = 1 ∨ cc = 2)) (hc0 : 0 ≤ cc.toInt) (hc7 : cc.toInt ≤ 7) : Go Z k 0 0 ([] : Hp) 36 #[.val (.int i0), .val (.int i1), .val (.int i2), .val (.int i3), .val (.long i4), .second, .val (.int cc), .val (.int (0 : Int32)), .val (.int d0), .val (.int d1), .val (.int d2), .unset, .unset, .unset, .unset, .unset, .unset] [] := by
  refine s_iload H at_36 rfl (pc' := 38) rfl ?_
  refine s_iload H at_38 rfl (pc' := 40) rfl ?_
  refine s_iload H at_40 rfl (pc' := 42) rfl ?_
  refine s_iload H at_42 rfl (pc' := 44) rfl ?_
  refine s_static H (met_md0 H.tb d0 d1 d2 h0 h1 h2) at_44 (mem (i := 0) rfl) (mem (i := 1) rfl) (mem (i := 2) rfl) (mem (i := 3) rfl) (by decide) pd_1 rfl (rest := []) rfl rfl (by decide) (Nat.le_of_ble_eq_true rfl) (cn' := 1) (sn' := 0) rfl rfl (by decide) (by decide) (pc' := 47) rfl (fun _ _ hq => ?_)
  obtain ⟨da, rfl, rfl⟩ := hq
  show Go Z k 1 0 ((da, ArI Z .byte ([] : List Int32)) :: []) 47 #[.val (.int i0), .val (.int i1), .val (.int i2), .val (.int i3), .val (.long i4), .second, .val (.int cc), .val (.int (0 : Int32)), .val (.int d0), .val (.int d1), .val (.int d2), .unset, .unset, .unset, .unset, .unset, .unset] [(.ref da)]
  refine s_astore H at_47 (L' := #[.val (.int i0), .val (.int i1), .val (.int i2), .val (.int i3), .val (.long i4), .second, .val (.int cc), .val (.int (0 : Int32)), .val (.int d0), .val (.int d1), .val (.int d2), .val (.ref da), .unset, .unset, .unset, .unset, .unset]) rfl rfl (pc' := 49) rfl ?_
  refine s_aload H at_49 rfl rfl (pc' := 51) rfl ?_
  refine s_alenI H at_51 (i := 0) rfl (z := (0 : Int32)) rfl (pc' := 52) rfl ?_
  refine s_istore H at_52 (L' := fun z => #[.val (.int i0), .val (.int i1), .val (.int i2), .val (.int i3), .val (.long i4), .second, .val (.int cc), .val (.int (0 : Int32)), .val (.int d0), .val (.int d1), .val (.int d2), .val (.ref da), .val (.int z), .unset, .unset, .unset, .unset]) (fun _ => rfl) (pc' := 54) rfl (fun z0 hz => ?_)
  subst z0
  refine s_new H (C := "com/example/quintet/quintet/EapPacket") [("com/example/quintet/quintet/EapPacket", "code", "I", (.int (0 : Int32))), ("com/example/quintet/quintet/EapPacket", "identifier", "I", (.int (0 : Int32))), ("com/example/quintet/quintet/EapPacket", "type", "I", (.int (0 : Int32))), ("com/example/quintet/quintet/EapPacket", "data", "[B", .null)] at_54 (mem (i := 5) rfl) (mem (i := 6) rfl) (mem (i := 7) rfl) (allC ⟨Or.inr (mem (i := 20) rfl), .int, by decide, rfl⟩ (allC ⟨Or.inr (mem (i := 22) rfl), .int, by decide, rfl⟩ (allC ⟨Or.inr (mem (i := 24) rfl), .int, by decide, rfl⟩ (allC ⟨Or.inr (mem (i := 26) rfl), (.array .byte), by decide, rfl⟩ allN)))) (by decide) (cn' := 2) (sn' := 4) rfl rfl (by decide) (by decide) (pc' := 57) rfl (fun a1 => ?_)
  refine s_dup H at_57 rfl (pc' := 58) rfl ?_
  refine s_iload H at_58 rfl (pc' := 60) rfl ?_
  refine s_iloadn H at_60 rfl (pc' := 61) rfl ?_
  refine s_iloadn H at_61 rfl (pc' := 62) rfl ?_
  refine s_aload H at_62 rfl rfl (pc' := 64) rfl ?_
  refine s_init H (met_ei H.tb a1 da cc i1 i2) at_64 rfl (mem (i := 8) rfl) (mem (i := 9) rfl) (mem (i := 7) rfl) (mem (i := 10) rfl) (by decide) pd_2 rfl (rest := [(.ref a1)]) rfl rfl (by decide) (Nat.le_of_ble_eq_true rfl) (cn' := 2) (sn' := 4) rfl rfl (by decide) (by decide) (pc' := 67) rfl (fun _ _ hq => ?_)
  obtain ⟨rfl, rfl⟩ := hq
  show Go Z k 2 4 ((a1, Obj Z "com/example/quintet/quintet/EapPacket" [("com/example/quintet/quintet/EapPacket", "code", "I", (.int cc)), ("com/example/quintet/quintet/EapPacket", "identifier", "I", (.int i1)), ("com/example/quintet/quintet/EapPacket", "type", "I", (.int i2)), ("com/example/quintet/quintet/EapPacket", "data", "[B", (.ref da))]) :: (da, ArI Z .byte ([] : List Int32)) :: []) 67 #[.val (.int i0), .val (.int i1), .val (.int i2), .val (.int i3), .val (.long i4), .second, .val (.int cc), .val (.int (0 : Int32)), .val (.int d0), .val (.int d1), .val (.int d2), .val (.ref da), .val (.int (0 : Int32)), .unset, .unset, .unset, .unset] [(.ref a1)]
  refine s_astore H at_67 (L' := #[.val (.int i0), .val (.int i1), .val (.int i2), .val (.int i3), .val (.long i4), .second, .val (.int cc), .val (.int (0 : Int32)), .val (.int d0), .val (.int d1), .val (.int d2), .val (.ref da), .val (.int (0 : Int32)), .val (.ref a1), .unset, .unset, .unset]) rfl rfl (pc' := 69) rfl ?_
  refine s_aload H at_69 rfl rfl (pc' := 71) rfl ?_
  refine s_virtual H (met_byf H.tb a1 da cc i1 i2 ([] : List Int32) hc) at_71 (i := 0) rfl (mem (i := 27) rfl) (mem (i := 28) rfl) (mem (i := 30) rfl) (mem (i := 29) rfl) (mem (i := 7) rfl) (mem (i := 31) rfl) (by decide) pd_5 rfl (rest := []) rfl rfl (by decide) (Nat.le_of_ble_eq_true rfl) (cn' := 3) (sn' := 8) rfl rfl (by decide) (by decide) (pc' := 74) rfl (fun _ _ hq => ?_)
  obtain ⟨ou, rfl, rfl⟩ := hq
  show Go Z k 3 8 ((ou, ArI Z .byte ([(cc.toInt8.toInt32), (i1.toInt8.toInt32), ((((4 : Int32).toUInt32 >>> ((8 : Int32) &&& 31).toUInt32).toInt32).toInt8.toInt32), ((4 : Int32).toInt8.toInt32)] : List Int32)) :: (a1, Obj Z "com/example/quintet/quintet/EapPacket" [("com/example/quintet/quintet/EapPacket", "code", "I", (.int cc)), ("com/example/quintet/quintet/EapPacket", "identifier", "I", (.int i1)), ("com/example/quintet/quintet/EapPacket", "type", "I", (.int i2)), ("com/example/quintet/quintet/EapPacket", "data", "[B", (.ref da))]) :: (da, ArI Z .byte ([] : List Int32)) :: []) 74 #[.val (.int i0), .val (.int i1), .val (.int i2), .val (.int i3), .val (.long i4), .second, .val (.int cc), .val (.int (0 : Int32)), .val (.int d0), .val (.int d1), .val (.int d2), .val (.ref da), .val (.int (0 : Int32)), .val (.ref a1), .unset, .unset, .unset] [(.ref ou)]
  refine s_astore H at_74 (L' := #[.val (.int i0), .val (.int i1), .val (.int i2), .val (.int i3), .val (.long i4), .second, .val (.int cc), .val (.int (0 : Int32)), .val (.int d0), .val (.int d1), .val (.int d2), .val (.ref da), .val (.int (0 : Int32)), .val (.ref a1), .val (.ref ou), .unset, .unset]) rfl rfl (pc' := 76) rfl ?_
  refine s_iload H at_76 rfl (pc' := 78) rfl ?_
  refine s_iconst H at_78 (z := (1 : Int32)) (by decide) (pc' := 79) rfl ?_
  refine s_icmp H at_79 (py := 88) (pc' := 82) q_eq (by decide) rfl (fun c79 => ?_) (fun c79 => ?_)
  · exact absurd (Or.inl c79) hc
  · refine s_iload H at_82 rfl (pc' := 84) rfl ?_
    refine s_iconst H at_84 (z := (2 : Int32)) (by decide) (pc' := 85) rfl ?_
    refine s_icmp H at_85 (py := 92) (pc' := 88) q_ne (by decide) rfl (fun c85 => ?_) (fun c85 => ?_)
    · refine s_iconst H at_92 (z := (0 : Int32)) (by decide) (pc' := 93) rfl ?_
      refine s_istore H at_93 (L' := fun z => #[.val (.int i0), .val (.int i1), .val (.int i2), .val (.int i3), .val (.long i4), .second, .val (.int cc), .val (.int (0 : Int32)), .val (.int d0), .val (.int d1), .val (.int d2), .val (.ref da), .val (.int (0 : Int32)), .val (.ref a1), .val (.ref ou), .val (.int z), .unset]) (fun _ => rfl) (pc' := 95) rfl (fun z0 hz => ?_)
      subst z0
      refine s_iload H at_95 rfl (pc' := 97) rfl ?_
      refine s_if H at_97 (py := 107) (pc' := 100) z_eq (by decide) rfl (fun c97 => ?_) (fun c97 => ?_)
      · refine s_iconst H at_107 (z := (4 : Int32)) (by decide) (pc' := 108) rfl ?_
        refine s_istore H at_108 (L' := fun z => #[.val (.int i0), .val (.int i1), .val (.int i2), .val (.int i3), .val (.long i4), .second, .val (.int cc), .val (.int (0 : Int32)), .val (.int d0), .val (.int d1), .val (.int d2), .val (.ref da), .val (.int (0 : Int32)), .val (.ref a1), .val (.ref ou), .val (.int (0 : Int32)), .val (.int z)]) (fun _ => rfl) (pc' := 110) rfl (fun z0 hz => ?_)
        subst z0
        refine s_aload H at_110 rfl rfl (pc' := 112) rfl ?_
        refine s_alenI H at_112 (i := 0) rfl (z := (4 : Int32)) rfl (pc' := 113) rfl ?_
        refine s_iload H at_113 rfl (pc' := 115) rfl ?_
        refine s_icmp H at_115 (py := 120) (pc' := 118) q_eq (by decide) rfl (fun c115 => ?_) (fun c115 => ?_)
        · refine s_aload H at_120 rfl rfl (pc' := 122) rfl ?_
          refine s_iconst H at_122 (z := (0 : Int32)) (by decide) (pc' := 123) rfl ?_
          refine s_baload H at_123 (i := 0) rfl (x := (cc.toInt8.toInt32)) (by decide) (jn := 0) (by decide) rfl (pc' := 124) rfl ?_
          refine s_sipush H at_124 (z := (255 : Int32)) (by decide) (pc' := 127) rfl ?_
          refine s_iand H at_127 (pc' := 128) rfl ?_
          refine s_iload H at_128 rfl (pc' := 130) rfl ?_
          refine s_icmp H at_130 (py := 135) (pc' := 133) q_eq (by decide) rfl (fun c130 => ?_) (fun c130 => ?_)
          · refine s_aload H at_135 rfl rfl (pc' := 137) rfl ?_
            refine s_iconst H at_137 (z := (1 : Int32)) (by decide) (pc' := 138) rfl ?_
            refine s_baload H at_138 (i := 0) rfl (x := (i1.toInt8.toInt32)) (by decide) (jn := 1) (by decide) rfl (pc' := 139) rfl ?_
            refine s_sipush H at_139 (z := (255 : Int32)) (by decide) (pc' := 142) rfl ?_
            refine s_iand H at_142 (pc' := 143) rfl ?_
            refine s_iloadn H at_143 rfl (pc' := 144) rfl ?_
            refine s_sipush H at_144 (z := (255 : Int32)) (by decide) (pc' := 147) rfl ?_
            refine s_iand H at_147 (pc' := 148) rfl ?_
            refine s_icmp H at_148 (py := 153) (pc' := 151) q_eq (by decide) rfl (fun c148 => ?_) (fun c148 => ?_)
            · refine s_aload H at_153 rfl rfl (pc' := 155) rfl ?_
              refine s_iconst H at_155 (z := (2 : Int32)) (by decide) (pc' := 156) rfl ?_
              refine s_baload H at_156 (i := 0) rfl (x := ((((4 : Int32).toUInt32 >>> ((8 : Int32) &&& 31).toUInt32).toInt32).toInt8.toInt32)) (by decide) (jn := 2) (by decide) rfl (pc' := 157) rfl ?_
              refine s_sipush H at_157 (z := (255 : Int32)) (by decide) (pc' := 160) rfl ?_
              refine s_iand H at_160 (pc' := 161) rfl ?_
              refine s_bipush H at_161 (z := (8 : Int32)) (by decide) (pc' := 163) rfl ?_
              refine s_ishl H at_163 (pc' := 164) rfl ?_
              refine s_aload H at_164 rfl rfl (pc' := 166) rfl ?_
              refine s_iconst H at_166 (z := (3 : Int32)) (by decide) (pc' := 167) rfl ?_
              refine s_baload H at_167 (i := 0) rfl (x := ((4 : Int32).toInt8.toInt32)) (by decide) (jn := 3) (by decide) rfl (pc' := 168) rfl ?_
              refine s_sipush H at_168 (z := (255 : Int32)) (by decide) (pc' := 171) rfl ?_
              refine s_iand H at_171 (pc' := 172) rfl ?_
              refine s_ior H at_172 (pc' := 173) rfl ?_
              refine s_iload H at_173 rfl (pc' := 175) rfl ?_
              refine s_icmp H at_175 (py := 180) (pc' := 178) q_eq (by decide) rfl (fun c175 => ?_) (fun c175 => ?_)
              · refine s_iload H at_180 rfl (pc' := 182) rfl ?_
                refine s_if H at_182 (py := 187) (pc' := 185) z_ne (by decide) rfl (fun c182 => ?_) (fun c182 => ?_)
                · exact absurd c182 (by decide)
                · refine s_iconst H at_185 (z := (1 : Int32)) (by decide) (pc' := 186) rfl ?_
                  exact s_iret H at_186 rfl (by simp) (by decide) (by decide) (rfl)
              · exact absurd (by decide) c175
            · exact absurd (own_b255 i1) c148
          · exact absurd (own_code hc0 hc7) c130
        · exact absurd c115 (by decide)
      · exact absurd c97 (by decide)
    · exact absurd (Or.inr (Classical.not_not.mp c85)) hc
set_option maxRecDepth 65536 in
set_option maxHeartbeats 40000000 in
theorem s36_1_1 {Z : State} {k : Cx} {i0 i1 i2 i3 d0 d1 d2 : Int32} {i4 : Int64} (H : Ok Z k room_1 (LQ) x code maxLocals ret) (h0 : nar .byte d0 = d0) (h1 : nar .byte d1 = d1) (h2 : nar .byte d2 = d2) : Go Z k 0 0 ([] : Hp) 36 #[.val (.int i0), .val (.int i1), .val (.int i2), .val (.int i3), .val (.long i4), .second, .val (.int (1 : Int32)), .val (.int (1 : Int32)), .val (.int d0), .val (.int d1), .val (.int d2), .unset, .unset, .unset, .unset, .unset, .unset] [] := by
  refine s_iload H at_36 rfl (pc' := 38) rfl ?_
  refine s_iload H at_38 rfl (pc' := 40) rfl ?_
  refine s_iload H at_40 rfl (pc' := 42) rfl ?_
  refine s_iload H at_42 rfl (pc' := 44) rfl ?_
  refine s_static H (met_md1 H.tb d0 d1 d2 h0 h1 h2) at_44 (mem (i := 0) rfl) (mem (i := 1) rfl) (mem (i := 2) rfl) (mem (i := 3) rfl) (by decide) pd_1 rfl (rest := []) rfl rfl (by decide) (Nat.le_of_ble_eq_true rfl) (cn' := 1) (sn' := 1) rfl rfl (by decide) (by decide) (pc' := 47) rfl (fun _ _ hq => ?_)
  obtain ⟨da, rfl, rfl⟩ := hq
  show Go Z k 1 1 ((da, ArI Z .byte ([d0] : List Int32)) :: []) 47 #[.val (.int i0), .val (.int i1), .val (.int i2), .val (.int i3), .val (.long i4), .second, .val (.int (1 : Int32)), .val (.int (1 : Int32)), .val (.int d0), .val (.int d1), .val (.int d2), .unset, .unset, .unset, .unset, .unset, .unset] [(.ref da)]
  refine s_astore H at_47 (L' := #[.val (.int i0), .val (.int i1), .val (.int i2), .val (.int i3), .val (.long i4), .second, .val (.int (1 : Int32)), .val (.int (1 : Int32)), .val (.int d0), .val (.int d1), .val (.int d2), .val (.ref da), .unset, .unset, .unset, .unset, .unset]) rfl rfl (pc' := 49) rfl ?_
  refine s_aload H at_49 rfl rfl (pc' := 51) rfl ?_
  refine s_alenI H at_51 (i := 0) rfl (z := (1 : Int32)) rfl (pc' := 52) rfl ?_
  refine s_istore H at_52 (L' := fun z => #[.val (.int i0), .val (.int i1), .val (.int i2), .val (.int i3), .val (.long i4), .second, .val (.int (1 : Int32)), .val (.int (1 : Int32)), .val (.int d0), .val (.int d1), .val (.int d2), .val (.ref da), .val (.int z), .unset, .unset, .unset, .unset]) (fun _ => rfl) (pc' := 54) rfl (fun z0 hz => ?_)
  subst z0
  refine s_new H (C := "com/example/quintet/quintet/EapPacket") [("com/example/quintet/quintet/EapPacket", "code", "I", (.int (0 : Int32))), ("com/example/quintet/quintet/EapPacket", "identifier", "I", (.int (0 : Int32))), ("com/example/quintet/quintet/EapPacket", "type", "I", (.int (0 : Int32))), ("com/example/quintet/quintet/EapPacket", "data", "[B", .null)] at_54 (mem (i := 5) rfl) (mem (i := 6) rfl) (mem (i := 7) rfl) (allC ⟨Or.inr (mem (i := 20) rfl), .int, by decide, rfl⟩ (allC ⟨Or.inr (mem (i := 22) rfl), .int, by decide, rfl⟩ (allC ⟨Or.inr (mem (i := 24) rfl), .int, by decide, rfl⟩ (allC ⟨Or.inr (mem (i := 26) rfl), (.array .byte), by decide, rfl⟩ allN)))) (by decide) (cn' := 2) (sn' := 5) rfl rfl (by decide) (by decide) (pc' := 57) rfl (fun a1 => ?_)
  refine s_dup H at_57 rfl (pc' := 58) rfl ?_
  refine s_iload H at_58 rfl (pc' := 60) rfl ?_
  refine s_iloadn H at_60 rfl (pc' := 61) rfl ?_
  refine s_iloadn H at_61 rfl (pc' := 62) rfl ?_
  refine s_aload H at_62 rfl rfl (pc' := 64) rfl ?_
  refine s_init H (met_ei H.tb a1 da (1 : Int32) i1 i2) at_64 rfl (mem (i := 8) rfl) (mem (i := 9) rfl) (mem (i := 7) rfl) (mem (i := 10) rfl) (by decide) pd_2 rfl (rest := [(.ref a1)]) rfl rfl (by decide) (Nat.le_of_ble_eq_true rfl) (cn' := 2) (sn' := 5) rfl rfl (by decide) (by decide) (pc' := 67) rfl (fun _ _ hq => ?_)
  obtain ⟨rfl, rfl⟩ := hq
  show Go Z k 2 5 ((a1, Obj Z "com/example/quintet/quintet/EapPacket" [("com/example/quintet/quintet/EapPacket", "code", "I", (.int (1 : Int32))), ("com/example/quintet/quintet/EapPacket", "identifier", "I", (.int i1)), ("com/example/quintet/quintet/EapPacket", "type", "I", (.int i2)), ("com/example/quintet/quintet/EapPacket", "data", "[B", (.ref da))]) :: (da, ArI Z .byte ([d0] : List Int32)) :: []) 67 #[.val (.int i0), .val (.int i1), .val (.int i2), .val (.int i3), .val (.long i4), .second, .val (.int (1 : Int32)), .val (.int (1 : Int32)), .val (.int d0), .val (.int d1), .val (.int d2), .val (.ref da), .val (.int (1 : Int32)), .unset, .unset, .unset, .unset] [(.ref a1)]
  refine s_astore H at_67 (L' := #[.val (.int i0), .val (.int i1), .val (.int i2), .val (.int i3), .val (.long i4), .second, .val (.int (1 : Int32)), .val (.int (1 : Int32)), .val (.int d0), .val (.int d1), .val (.int d2), .val (.ref da), .val (.int (1 : Int32)), .val (.ref a1), .unset, .unset, .unset]) rfl rfl (pc' := 69) rfl ?_
  refine s_aload H at_69 rfl rfl (pc' := 71) rfl ?_
  refine s_virtual H (met_byt H.tb a1 da (1 : Int32) i1 i2 ([d0] : List Int32) (by decide) (Nat.le_of_ble_eq_true rfl)) at_71 (i := 0) rfl (mem (i := 27) rfl) (mem (i := 28) rfl) (mem (i := 30) rfl) (mem (i := 29) rfl) (mem (i := 7) rfl) (mem (i := 31) rfl) (by decide) pd_5 rfl (rest := []) rfl rfl (by decide) (Nat.le_of_ble_eq_true rfl) (cn' := 3) (sn' := 310) rfl rfl (by decide) (by decide) (pc' := 74) rfl (fun _ _ hq => ?_)
  obtain ⟨ou, rfl, rfl⟩ := hq
  show Go Z k 3 310 ((ou, ArI Z .byte ([((1 : Int32).toInt8.toInt32), (i1.toInt8.toInt32), ((((6 : Nat).toInt32.toUInt32 >>> ((8 : Int32) &&& 31).toUInt32).toInt32).toInt8.toInt32), ((6 : Nat).toInt32.toInt8.toInt32), (i2.toInt8.toInt32), d0] : List Int32)) :: (a1, Obj Z "com/example/quintet/quintet/EapPacket" [("com/example/quintet/quintet/EapPacket", "code", "I", (.int (1 : Int32))), ("com/example/quintet/quintet/EapPacket", "identifier", "I", (.int i1)), ("com/example/quintet/quintet/EapPacket", "type", "I", (.int i2)), ("com/example/quintet/quintet/EapPacket", "data", "[B", (.ref da))]) :: (da, ArI Z .byte ([d0] : List Int32)) :: []) 74 #[.val (.int i0), .val (.int i1), .val (.int i2), .val (.int i3), .val (.long i4), .second, .val (.int (1 : Int32)), .val (.int (1 : Int32)), .val (.int d0), .val (.int d1), .val (.int d2), .val (.ref da), .val (.int (1 : Int32)), .val (.ref a1), .unset, .unset, .unset] [(.ref ou)]
  refine s_astore H at_74 (L' := #[.val (.int i0), .val (.int i1), .val (.int i2), .val (.int i3), .val (.long i4), .second, .val (.int (1 : Int32)), .val (.int (1 : Int32)), .val (.int d0), .val (.int d1), .val (.int d2), .val (.ref da), .val (.int (1 : Int32)), .val (.ref a1), .val (.ref ou), .unset, .unset]) rfl rfl (pc' := 76) rfl ?_
  refine s_iload H at_76 rfl (pc' := 78) rfl ?_
  refine s_iconst H at_78 (z := (1 : Int32)) (by decide) (pc' := 79) rfl ?_
  refine s_icmp H at_79 (py := 88) (pc' := 82) q_eq (by decide) rfl (fun c79 => ?_) (fun c79 => ?_)
  · refine s_iconst H at_88 (z := (1 : Int32)) (by decide) (pc' := 89) rfl ?_
    refine s_goto H at_89 (pc' := 93) (by decide) ?_
    refine s_istore H at_93 (L' := fun z => #[.val (.int i0), .val (.int i1), .val (.int i2), .val (.int i3), .val (.long i4), .second, .val (.int (1 : Int32)), .val (.int (1 : Int32)), .val (.int d0), .val (.int d1), .val (.int d2), .val (.ref da), .val (.int (1 : Int32)), .val (.ref a1), .val (.ref ou), .val (.int z), .unset]) (fun _ => rfl) (pc' := 95) rfl (fun z0 hz => ?_)
    subst z0
    refine s_iload H at_95 rfl (pc' := 97) rfl ?_
    refine s_if H at_97 (py := 107) (pc' := 100) z_eq (by decide) rfl (fun c97 => ?_) (fun c97 => ?_)
    · exact absurd c97 (by decide)
    · refine s_iconst H at_100 (z := (5 : Int32)) (by decide) (pc' := 101) rfl ?_
      refine s_iload H at_101 rfl (pc' := 103) rfl ?_
      refine s_iadd H at_103 (pc' := 104) rfl ?_
      refine s_goto H at_104 (pc' := 108) (by decide) ?_
      refine s_istore H at_108 (L' := fun z => #[.val (.int i0), .val (.int i1), .val (.int i2), .val (.int i3), .val (.long i4), .second, .val (.int (1 : Int32)), .val (.int (1 : Int32)), .val (.int d0), .val (.int d1), .val (.int d2), .val (.ref da), .val (.int (1 : Int32)), .val (.ref a1), .val (.ref ou), .val (.int (1 : Int32)), .val (.int z)]) (fun _ => rfl) (pc' := 110) rfl (fun z0 hz => ?_)
      subst z0
      refine s_aload H at_110 rfl rfl (pc' := 112) rfl ?_
      refine s_alenI H at_112 (i := 0) rfl (z := (6 : Int32)) rfl (pc' := 113) rfl ?_
      refine s_iload H at_113 rfl (pc' := 115) rfl ?_
      refine s_icmp H at_115 (py := 120) (pc' := 118) q_eq (by decide) rfl (fun c115 => ?_) (fun c115 => ?_)
      · refine s_aload H at_120 rfl rfl (pc' := 122) rfl ?_
        refine s_iconst H at_122 (z := (0 : Int32)) (by decide) (pc' := 123) rfl ?_
        refine s_baload H at_123 (i := 0) rfl (x := ((1 : Int32).toInt8.toInt32)) (by decide) (jn := 0) (by decide) rfl (pc' := 124) rfl ?_
        refine s_sipush H at_124 (z := (255 : Int32)) (by decide) (pc' := 127) rfl ?_
        refine s_iand H at_127 (pc' := 128) rfl ?_
        refine s_iload H at_128 rfl (pc' := 130) rfl ?_
        refine s_icmp H at_130 (py := 135) (pc' := 133) q_eq (by decide) rfl (fun c130 => ?_) (fun c130 => ?_)
        · refine s_aload H at_135 rfl rfl (pc' := 137) rfl ?_
          refine s_iconst H at_137 (z := (1 : Int32)) (by decide) (pc' := 138) rfl ?_
          refine s_baload H at_138 (i := 0) rfl (x := (i1.toInt8.toInt32)) (by decide) (jn := 1) (by decide) rfl (pc' := 139) rfl ?_
          refine s_sipush H at_139 (z := (255 : Int32)) (by decide) (pc' := 142) rfl ?_
          refine s_iand H at_142 (pc' := 143) rfl ?_
          refine s_iloadn H at_143 rfl (pc' := 144) rfl ?_
          refine s_sipush H at_144 (z := (255 : Int32)) (by decide) (pc' := 147) rfl ?_
          refine s_iand H at_147 (pc' := 148) rfl ?_
          refine s_icmp H at_148 (py := 153) (pc' := 151) q_eq (by decide) rfl (fun c148 => ?_) (fun c148 => ?_)
          · refine s_aload H at_153 rfl rfl (pc' := 155) rfl ?_
            refine s_iconst H at_155 (z := (2 : Int32)) (by decide) (pc' := 156) rfl ?_
            refine s_baload H at_156 (i := 0) rfl (x := ((((6 : Nat).toInt32.toUInt32 >>> ((8 : Int32) &&& 31).toUInt32).toInt32).toInt8.toInt32)) (by decide) (jn := 2) (by decide) rfl (pc' := 157) rfl ?_
            refine s_sipush H at_157 (z := (255 : Int32)) (by decide) (pc' := 160) rfl ?_
            refine s_iand H at_160 (pc' := 161) rfl ?_
            refine s_bipush H at_161 (z := (8 : Int32)) (by decide) (pc' := 163) rfl ?_
            refine s_ishl H at_163 (pc' := 164) rfl ?_
            refine s_aload H at_164 rfl rfl (pc' := 166) rfl ?_
            refine s_iconst H at_166 (z := (3 : Int32)) (by decide) (pc' := 167) rfl ?_
            refine s_baload H at_167 (i := 0) rfl (x := ((6 : Nat).toInt32.toInt8.toInt32)) (by decide) (jn := 3) (by decide) rfl (pc' := 168) rfl ?_
            refine s_sipush H at_168 (z := (255 : Int32)) (by decide) (pc' := 171) rfl ?_
            refine s_iand H at_171 (pc' := 172) rfl ?_
            refine s_ior H at_172 (pc' := 173) rfl ?_
            refine s_iload H at_173 rfl (pc' := 175) rfl ?_
            refine s_icmp H at_175 (py := 180) (pc' := 178) q_eq (by decide) rfl (fun c175 => ?_) (fun c175 => ?_)
            · refine s_iload H at_180 rfl (pc' := 182) rfl ?_
              refine s_if H at_182 (py := 187) (pc' := 185) z_ne (by decide) rfl (fun c182 => ?_) (fun c182 => ?_)
              · refine s_aload H at_187 rfl rfl (pc' := 189) rfl ?_
                refine s_iconst H at_189 (z := (4 : Int32)) (by decide) (pc' := 190) rfl ?_
                refine s_baload H at_190 (i := 0) rfl (x := (i2.toInt8.toInt32)) (by decide) (jn := 4) (by decide) rfl (pc' := 191) rfl ?_
                refine s_sipush H at_191 (z := (255 : Int32)) (by decide) (pc' := 194) rfl ?_
                refine s_iand H at_194 (pc' := 195) rfl ?_
                refine s_iloadn H at_195 rfl (pc' := 196) rfl ?_
                refine s_sipush H at_196 (z := (255 : Int32)) (by decide) (pc' := 199) rfl ?_
                refine s_iand H at_199 (pc' := 200) rfl ?_
                refine s_icmp H at_200 (py := 205) (pc' := 203) q_eq (by decide) rfl (fun c200 => ?_) (fun c200 => ?_)
                · refine s_iload H at_205 rfl (pc' := 207) rfl ?_
                  refine s_iconst H at_207 (z := (3 : Int32)) (by decide) (pc' := 208) rfl ?_
                  refine s_icmp H at_208 (py := 218) (pc' := 211) q_le (by decide) rfl (fun c208 => ?_) (fun c208 => ?_)
                  · refine s_iload H at_218 rfl (pc' := 220) rfl ?_
                    refine s_iconst H at_220 (z := (1 : Int32)) (by decide) (pc' := 221) rfl ?_
                    refine s_icmp H at_221 (py := 235) (pc' := 224) q_lt (by decide) rfl (fun c221 => ?_) (fun c221 => ?_)
                    · exact absurd c221 (by decide)
                    · refine s_aload H at_224 rfl rfl (pc' := 226) rfl ?_
                      refine s_iconst H at_226 (z := (5 : Int32)) (by decide) (pc' := 227) rfl ?_
                      refine s_baload H at_227 (i := 0) rfl (x := d0) (by decide) (jn := 5) (by decide) rfl (pc' := 228) rfl ?_
                      refine s_iload H at_228 rfl (pc' := 230) rfl ?_
                      refine s_icmp H at_230 (py := 235) (pc' := 233) q_eq (by decide) rfl (fun c230 => ?_) (fun c230 => ?_)
                      · refine s_iload H at_235 rfl (pc' := 237) rfl ?_
                        refine s_iconst H at_237 (z := (2 : Int32)) (by decide) (pc' := 238) rfl ?_
                        refine s_icmp H at_238 (py := 253) (pc' := 241) q_lt (by decide) rfl (fun c238 => ?_) (fun c238 => ?_)
                        · refine s_iload H at_253 rfl (pc' := 255) rfl ?_
                          refine s_iconst H at_255 (z := (3 : Int32)) (by decide) (pc' := 256) rfl ?_
                          refine s_icmp H at_256 (py := 271) (pc' := 259) q_lt (by decide) rfl (fun c256 => ?_) (fun c256 => ?_)
                          · refine s_iload H at_271 rfl (pc' := 273) rfl ?_
                            refine s_iconst H at_273 (z := (4 : Int32)) (by decide) (pc' := 274) rfl ?_
                            refine s_icmp H at_274 (py := 289) (pc' := 277) q_lt (by decide) rfl (fun c274 => ?_) (fun c274 => ?_)
                            · refine s_iconst H at_289 (z := (1 : Int32)) (by decide) (pc' := 290) rfl ?_
                              exact s_iret H at_290 rfl (by simp) (by decide) (by decide) (rfl)
                            · exact absurd c274 (by decide)
                          · exact absurd c256 (by decide)
                        · exact absurd c238 (by decide)
                      · exact absurd rfl c230
                  · exact absurd c208 (by decide)
                · exact absurd (own_b255 i2) c200
              · exact absurd c182 (by decide)
            · exact absurd (own_len16 ⟨6, by decide⟩) c175
          · exact absurd (own_b255 i1) c148
        · exact absurd (by decide) c130
      · exact absurd c115 (by decide)
  · exact absurd c79 (by decide)
set_option maxRecDepth 65536 in
set_option maxHeartbeats 40000000 in
theorem s36_1_2 {Z : State} {k : Cx} {i0 i1 i2 i3 d0 d1 d2 : Int32} {i4 : Int64} (H : Ok Z k room_1 (LQ) x code maxLocals ret) (h0 : nar .byte d0 = d0) (h1 : nar .byte d1 = d1) (h2 : nar .byte d2 = d2) : Go Z k 0 0 ([] : Hp) 36 #[.val (.int i0), .val (.int i1), .val (.int i2), .val (.int i3), .val (.long i4), .second, .val (.int (2 : Int32)), .val (.int (1 : Int32)), .val (.int d0), .val (.int d1), .val (.int d2), .unset, .unset, .unset, .unset, .unset, .unset] [] := by
  refine s_iload H at_36 rfl (pc' := 38) rfl ?_
  refine s_iload H at_38 rfl (pc' := 40) rfl ?_
  refine s_iload H at_40 rfl (pc' := 42) rfl ?_
  refine s_iload H at_42 rfl (pc' := 44) rfl ?_
  refine s_static H (met_md1 H.tb d0 d1 d2 h0 h1 h2) at_44 (mem (i := 0) rfl) (mem (i := 1) rfl) (mem (i := 2) rfl) (mem (i := 3) rfl) (by decide) pd_1 rfl (rest := []) rfl rfl (by decide) (Nat.le_of_ble_eq_true rfl) (cn' := 1) (sn' := 1) rfl rfl (by decide) (by decide) (pc' := 47) rfl (fun _ _ hq => ?_)
  obtain ⟨da, rfl, rfl⟩ := hq
  show Go Z k 1 1 ((da, ArI Z .byte ([d0] : List Int32)) :: []) 47 #[.val (.int i0), .val (.int i1), .val (.int i2), .val (.int i3), .val (.long i4), .second, .val (.int (2 : Int32)), .val (.int (1 : Int32)), .val (.int d0), .val (.int d1), .val (.int d2), .unset, .unset, .unset, .unset, .unset, .unset] [(.ref da)]
  refine s_astore H at_47 (L' := #[.val (.int i0), .val (.int i1), .val (.int i2), .val (.int i3), .val (.long i4), .second, .val (.int (2 : Int32)), .val (.int (1 : Int32)), .val (.int d0), .val (.int d1), .val (.int d2), .val (.ref da), .unset, .unset, .unset, .unset, .unset]) rfl rfl (pc' := 49) rfl ?_
  refine s_aload H at_49 rfl rfl (pc' := 51) rfl ?_
  refine s_alenI H at_51 (i := 0) rfl (z := (1 : Int32)) rfl (pc' := 52) rfl ?_
  refine s_istore H at_52 (L' := fun z => #[.val (.int i0), .val (.int i1), .val (.int i2), .val (.int i3), .val (.long i4), .second, .val (.int (2 : Int32)), .val (.int (1 : Int32)), .val (.int d0), .val (.int d1), .val (.int d2), .val (.ref da), .val (.int z), .unset, .unset, .unset, .unset]) (fun _ => rfl) (pc' := 54) rfl (fun z0 hz => ?_)
  subst z0
  refine s_new H (C := "com/example/quintet/quintet/EapPacket") [("com/example/quintet/quintet/EapPacket", "code", "I", (.int (0 : Int32))), ("com/example/quintet/quintet/EapPacket", "identifier", "I", (.int (0 : Int32))), ("com/example/quintet/quintet/EapPacket", "type", "I", (.int (0 : Int32))), ("com/example/quintet/quintet/EapPacket", "data", "[B", .null)] at_54 (mem (i := 5) rfl) (mem (i := 6) rfl) (mem (i := 7) rfl) (allC ⟨Or.inr (mem (i := 20) rfl), .int, by decide, rfl⟩ (allC ⟨Or.inr (mem (i := 22) rfl), .int, by decide, rfl⟩ (allC ⟨Or.inr (mem (i := 24) rfl), .int, by decide, rfl⟩ (allC ⟨Or.inr (mem (i := 26) rfl), (.array .byte), by decide, rfl⟩ allN)))) (by decide) (cn' := 2) (sn' := 5) rfl rfl (by decide) (by decide) (pc' := 57) rfl (fun a1 => ?_)
  refine s_dup H at_57 rfl (pc' := 58) rfl ?_
  refine s_iload H at_58 rfl (pc' := 60) rfl ?_
  refine s_iloadn H at_60 rfl (pc' := 61) rfl ?_
  refine s_iloadn H at_61 rfl (pc' := 62) rfl ?_
  refine s_aload H at_62 rfl rfl (pc' := 64) rfl ?_
  refine s_init H (met_ei H.tb a1 da (2 : Int32) i1 i2) at_64 rfl (mem (i := 8) rfl) (mem (i := 9) rfl) (mem (i := 7) rfl) (mem (i := 10) rfl) (by decide) pd_2 rfl (rest := [(.ref a1)]) rfl rfl (by decide) (Nat.le_of_ble_eq_true rfl) (cn' := 2) (sn' := 5) rfl rfl (by decide) (by decide) (pc' := 67) rfl (fun _ _ hq => ?_)
  obtain ⟨rfl, rfl⟩ := hq
  show Go Z k 2 5 ((a1, Obj Z "com/example/quintet/quintet/EapPacket" [("com/example/quintet/quintet/EapPacket", "code", "I", (.int (2 : Int32))), ("com/example/quintet/quintet/EapPacket", "identifier", "I", (.int i1)), ("com/example/quintet/quintet/EapPacket", "type", "I", (.int i2)), ("com/example/quintet/quintet/EapPacket", "data", "[B", (.ref da))]) :: (da, ArI Z .byte ([d0] : List Int32)) :: []) 67 #[.val (.int i0), .val (.int i1), .val (.int i2), .val (.int i3), .val (.long i4), .second, .val (.int (2 : Int32)), .val (.int (1 : Int32)), .val (.int d0), .val (.int d1), .val (.int d2), .val (.ref da), .val (.int (1 : Int32)), .unset, .unset, .unset, .unset] [(.ref a1)]
  refine s_astore H at_67 (L' := #[.val (.int i0), .val (.int i1), .val (.int i2), .val (.int i3), .val (.long i4), .second, .val (.int (2 : Int32)), .val (.int (1 : Int32)), .val (.int d0), .val (.int d1), .val (.int d2), .val (.ref da), .val (.int (1 : Int32)), .val (.ref a1), .unset, .unset, .unset]) rfl rfl (pc' := 69) rfl ?_
  refine s_aload H at_69 rfl rfl (pc' := 71) rfl ?_
  refine s_virtual H (met_byt H.tb a1 da (2 : Int32) i1 i2 ([d0] : List Int32) (by decide) (Nat.le_of_ble_eq_true rfl)) at_71 (i := 0) rfl (mem (i := 27) rfl) (mem (i := 28) rfl) (mem (i := 30) rfl) (mem (i := 29) rfl) (mem (i := 7) rfl) (mem (i := 31) rfl) (by decide) pd_5 rfl (rest := []) rfl rfl (by decide) (Nat.le_of_ble_eq_true rfl) (cn' := 3) (sn' := 310) rfl rfl (by decide) (by decide) (pc' := 74) rfl (fun _ _ hq => ?_)
  obtain ⟨ou, rfl, rfl⟩ := hq
  show Go Z k 3 310 ((ou, ArI Z .byte ([((2 : Int32).toInt8.toInt32), (i1.toInt8.toInt32), ((((6 : Nat).toInt32.toUInt32 >>> ((8 : Int32) &&& 31).toUInt32).toInt32).toInt8.toInt32), ((6 : Nat).toInt32.toInt8.toInt32), (i2.toInt8.toInt32), d0] : List Int32)) :: (a1, Obj Z "com/example/quintet/quintet/EapPacket" [("com/example/quintet/quintet/EapPacket", "code", "I", (.int (2 : Int32))), ("com/example/quintet/quintet/EapPacket", "identifier", "I", (.int i1)), ("com/example/quintet/quintet/EapPacket", "type", "I", (.int i2)), ("com/example/quintet/quintet/EapPacket", "data", "[B", (.ref da))]) :: (da, ArI Z .byte ([d0] : List Int32)) :: []) 74 #[.val (.int i0), .val (.int i1), .val (.int i2), .val (.int i3), .val (.long i4), .second, .val (.int (2 : Int32)), .val (.int (1 : Int32)), .val (.int d0), .val (.int d1), .val (.int d2), .val (.ref da), .val (.int (1 : Int32)), .val (.ref a1), .unset, .unset, .unset] [(.ref ou)]
  refine s_astore H at_74 (L' := #[.val (.int i0), .val (.int i1), .val (.int i2), .val (.int i3), .val (.long i4), .second, .val (.int (2 : Int32)), .val (.int (1 : Int32)), .val (.int d0), .val (.int d1), .val (.int d2), .val (.ref da), .val (.int (1 : Int32)), .val (.ref a1), .val (.ref ou), .unset, .unset]) rfl rfl (pc' := 76) rfl ?_
  refine s_iload H at_76 rfl (pc' := 78) rfl ?_
  refine s_iconst H at_78 (z := (1 : Int32)) (by decide) (pc' := 79) rfl ?_
  refine s_icmp H at_79 (py := 88) (pc' := 82) q_eq (by decide) rfl (fun c79 => ?_) (fun c79 => ?_)
  · exact absurd c79 (by decide)
  · refine s_iload H at_82 rfl (pc' := 84) rfl ?_
    refine s_iconst H at_84 (z := (2 : Int32)) (by decide) (pc' := 85) rfl ?_
    refine s_icmp H at_85 (py := 92) (pc' := 88) q_ne (by decide) rfl (fun c85 => ?_) (fun c85 => ?_)
    · exact absurd c85 (by decide)
    · refine s_iconst H at_88 (z := (1 : Int32)) (by decide) (pc' := 89) rfl ?_
      refine s_goto H at_89 (pc' := 93) (by decide) ?_
      refine s_istore H at_93 (L' := fun z => #[.val (.int i0), .val (.int i1), .val (.int i2), .val (.int i3), .val (.long i4), .second, .val (.int (2 : Int32)), .val (.int (1 : Int32)), .val (.int d0), .val (.int d1), .val (.int d2), .val (.ref da), .val (.int (1 : Int32)), .val (.ref a1), .val (.ref ou), .val (.int z), .unset]) (fun _ => rfl) (pc' := 95) rfl (fun z0 hz => ?_)
      subst z0
      refine s_iload H at_95 rfl (pc' := 97) rfl ?_
      refine s_if H at_97 (py := 107) (pc' := 100) z_eq (by decide) rfl (fun c97 => ?_) (fun c97 => ?_)
      · exact absurd c97 (by decide)
      · refine s_iconst H at_100 (z := (5 : Int32)) (by decide) (pc' := 101) rfl ?_
        refine s_iload H at_101 rfl (pc' := 103) rfl ?_
        refine s_iadd H at_103 (pc' := 104) rfl ?_
        refine s_goto H at_104 (pc' := 108) (by decide) ?_
        refine s_istore H at_108 (L' := fun z => #[.val (.int i0), .val (.int i1), .val (.int i2), .val (.int i3), .val (.long i4), .second, .val (.int (2 : Int32)), .val (.int (1 : Int32)), .val (.int d0), .val (.int d1), .val (.int d2), .val (.ref da), .val (.int (1 : Int32)), .val (.ref a1), .val (.ref ou), .val (.int (1 : Int32)), .val (.int z)]) (fun _ => rfl) (pc' := 110) rfl (fun z0 hz => ?_)
        subst z0
        refine s_aload H at_110 rfl rfl (pc' := 112) rfl ?_
        refine s_alenI H at_112 (i := 0) rfl (z := (6 : Int32)) rfl (pc' := 113) rfl ?_
        refine s_iload H at_113 rfl (pc' := 115) rfl ?_
        refine s_icmp H at_115 (py := 120) (pc' := 118) q_eq (by decide) rfl (fun c115 => ?_) (fun c115 => ?_)
        · refine s_aload H at_120 rfl rfl (pc' := 122) rfl ?_
          refine s_iconst H at_122 (z := (0 : Int32)) (by decide) (pc' := 123) rfl ?_
          refine s_baload H at_123 (i := 0) rfl (x := ((2 : Int32).toInt8.toInt32)) (by decide) (jn := 0) (by decide) rfl (pc' := 124) rfl ?_
          refine s_sipush H at_124 (z := (255 : Int32)) (by decide) (pc' := 127) rfl ?_
          refine s_iand H at_127 (pc' := 128) rfl ?_
          refine s_iload H at_128 rfl (pc' := 130) rfl ?_
          refine s_icmp H at_130 (py := 135) (pc' := 133) q_eq (by decide) rfl (fun c130 => ?_) (fun c130 => ?_)
          · refine s_aload H at_135 rfl rfl (pc' := 137) rfl ?_
            refine s_iconst H at_137 (z := (1 : Int32)) (by decide) (pc' := 138) rfl ?_
            refine s_baload H at_138 (i := 0) rfl (x := (i1.toInt8.toInt32)) (by decide) (jn := 1) (by decide) rfl (pc' := 139) rfl ?_
            refine s_sipush H at_139 (z := (255 : Int32)) (by decide) (pc' := 142) rfl ?_
            refine s_iand H at_142 (pc' := 143) rfl ?_
            refine s_iloadn H at_143 rfl (pc' := 144) rfl ?_
            refine s_sipush H at_144 (z := (255 : Int32)) (by decide) (pc' := 147) rfl ?_
            refine s_iand H at_147 (pc' := 148) rfl ?_
            refine s_icmp H at_148 (py := 153) (pc' := 151) q_eq (by decide) rfl (fun c148 => ?_) (fun c148 => ?_)
            · refine s_aload H at_153 rfl rfl (pc' := 155) rfl ?_
              refine s_iconst H at_155 (z := (2 : Int32)) (by decide) (pc' := 156) rfl ?_
              refine s_baload H at_156 (i := 0) rfl (x := ((((6 : Nat).toInt32.toUInt32 >>> ((8 : Int32) &&& 31).toUInt32).toInt32).toInt8.toInt32)) (by decide) (jn := 2) (by decide) rfl (pc' := 157) rfl ?_
              refine s_sipush H at_157 (z := (255 : Int32)) (by decide) (pc' := 160) rfl ?_
              refine s_iand H at_160 (pc' := 161) rfl ?_
              refine s_bipush H at_161 (z := (8 : Int32)) (by decide) (pc' := 163) rfl ?_
              refine s_ishl H at_163 (pc' := 164) rfl ?_
              refine s_aload H at_164 rfl rfl (pc' := 166) rfl ?_
              refine s_iconst H at_166 (z := (3 : Int32)) (by decide) (pc' := 167) rfl ?_
              refine s_baload H at_167 (i := 0) rfl (x := ((6 : Nat).toInt32.toInt8.toInt32)) (by decide) (jn := 3) (by decide) rfl (pc' := 168) rfl ?_
              refine s_sipush H at_168 (z := (255 : Int32)) (by decide) (pc' := 171) rfl ?_
              refine s_iand H at_171 (pc' := 172) rfl ?_
              refine s_ior H at_172 (pc' := 173) rfl ?_
              refine s_iload H at_173 rfl (pc' := 175) rfl ?_
              refine s_icmp H at_175 (py := 180) (pc' := 178) q_eq (by decide) rfl (fun c175 => ?_) (fun c175 => ?_)
              · refine s_iload H at_180 rfl (pc' := 182) rfl ?_
                refine s_if H at_182 (py := 187) (pc' := 185) z_ne (by decide) rfl (fun c182 => ?_) (fun c182 => ?_)
                · refine s_aload H at_187 rfl rfl (pc' := 189) rfl ?_
                  refine s_iconst H at_189 (z := (4 : Int32)) (by decide) (pc' := 190) rfl ?_
                  refine s_baload H at_190 (i := 0) rfl (x := (i2.toInt8.toInt32)) (by decide) (jn := 4) (by decide) rfl (pc' := 191) rfl ?_
                  refine s_sipush H at_191 (z := (255 : Int32)) (by decide) (pc' := 194) rfl ?_
                  refine s_iand H at_194 (pc' := 195) rfl ?_
                  refine s_iloadn H at_195 rfl (pc' := 196) rfl ?_
                  refine s_sipush H at_196 (z := (255 : Int32)) (by decide) (pc' := 199) rfl ?_
                  refine s_iand H at_199 (pc' := 200) rfl ?_
                  refine s_icmp H at_200 (py := 205) (pc' := 203) q_eq (by decide) rfl (fun c200 => ?_) (fun c200 => ?_)
                  · refine s_iload H at_205 rfl (pc' := 207) rfl ?_
                    refine s_iconst H at_207 (z := (3 : Int32)) (by decide) (pc' := 208) rfl ?_
                    refine s_icmp H at_208 (py := 218) (pc' := 211) q_le (by decide) rfl (fun c208 => ?_) (fun c208 => ?_)
                    · refine s_iload H at_218 rfl (pc' := 220) rfl ?_
                      refine s_iconst H at_220 (z := (1 : Int32)) (by decide) (pc' := 221) rfl ?_
                      refine s_icmp H at_221 (py := 235) (pc' := 224) q_lt (by decide) rfl (fun c221 => ?_) (fun c221 => ?_)
                      · exact absurd c221 (by decide)
                      · refine s_aload H at_224 rfl rfl (pc' := 226) rfl ?_
                        refine s_iconst H at_226 (z := (5 : Int32)) (by decide) (pc' := 227) rfl ?_
                        refine s_baload H at_227 (i := 0) rfl (x := d0) (by decide) (jn := 5) (by decide) rfl (pc' := 228) rfl ?_
                        refine s_iload H at_228 rfl (pc' := 230) rfl ?_
                        refine s_icmp H at_230 (py := 235) (pc' := 233) q_eq (by decide) rfl (fun c230 => ?_) (fun c230 => ?_)
                        · refine s_iload H at_235 rfl (pc' := 237) rfl ?_
                          refine s_iconst H at_237 (z := (2 : Int32)) (by decide) (pc' := 238) rfl ?_
                          refine s_icmp H at_238 (py := 253) (pc' := 241) q_lt (by decide) rfl (fun c238 => ?_) (fun c238 => ?_)
                          · refine s_iload H at_253 rfl (pc' := 255) rfl ?_
                            refine s_iconst H at_255 (z := (3 : Int32)) (by decide) (pc' := 256) rfl ?_
                            refine s_icmp H at_256 (py := 271) (pc' := 259) q_lt (by decide) rfl (fun c256 => ?_) (fun c256 => ?_)
                            · refine s_iload H at_271 rfl (pc' := 273) rfl ?_
                              refine s_iconst H at_273 (z := (4 : Int32)) (by decide) (pc' := 274) rfl ?_
                              refine s_icmp H at_274 (py := 289) (pc' := 277) q_lt (by decide) rfl (fun c274 => ?_) (fun c274 => ?_)
                              · refine s_iconst H at_289 (z := (1 : Int32)) (by decide) (pc' := 290) rfl ?_
                                exact s_iret H at_290 rfl (by simp) (by decide) (by decide) (rfl)
                              · exact absurd c274 (by decide)
                            · exact absurd c256 (by decide)
                          · exact absurd c238 (by decide)
                        · exact absurd rfl c230
                    · exact absurd c208 (by decide)
                  · exact absurd (own_b255 i2) c200
                · exact absurd c182 (by decide)
              · exact absurd (own_len16 ⟨6, by decide⟩) c175
            · exact absurd (own_b255 i1) c148
          · exact absurd (by decide) c130
        · exact absurd c115 (by decide)
set_option maxRecDepth 65536 in
set_option maxHeartbeats 40000000 in
theorem s36_1_x {Z : State} {k : Cx} {i0 i1 i2 i3 d0 d1 d2 cc : Int32} {i4 : Int64} (H : Ok Z k room_1 (LQ) x code maxLocals ret) (h0 : nar .byte d0 = d0) (h1 : nar .byte d1 = d1) (h2 : nar .byte d2 = d2) (hc : ¬ (cc = 1 ∨ cc = 2)) (hc0 : 0 ≤ cc.toInt) (hc7 : cc.toInt ≤ 7) : Go Z k 0 0 ([] : Hp) 36 #[.val (.int i0), .val (.int i1), .val (.int i2), .val (.int i3), .val (.long i4), .second, .val (.int cc), .val (.int (1 : Int32)), .val (.int d0), .val (.int d1), .val (.int d2), .unset, .unset, .unset, .unset, .unset, .unset] [] := by
  refine s_iload H at_36 rfl (pc' := 38) rfl ?_
  refine s_iload H at_38 rfl (pc' := 40) rfl ?_
  refine s_iload H at_40 rfl (pc' := 42) rfl ?_
  refine s_iload H at_42 rfl (pc' := 44) rfl ?_
  refine s_static H (met_md1 H.tb d0 d1 d2 h0 h1 h2) at_44 (mem (i := 0) rfl) (mem (i := 1) rfl) (mem (i := 2) rfl) (mem (i := 3) rfl) (by decide) pd_1 rfl (rest := []) rfl rfl (by decide) (Nat.le_of_ble_eq_true rfl) (cn' := 1) (sn' := 1) rfl rfl (by decide) (by decide) (pc' := 47) rfl (fun _ _ hq => ?_)
  obtain ⟨da, rfl, rfl⟩ := hq
  show Go Z k 1 1 ((da, ArI Z .byte ([d0] : List Int32)) :: []) 47 #[.val (.int i0), .val (.int i1), .val (.int i2), .val (.int i3), .val (.long i4), .second, .val (.int cc), .val (.int (1 : Int32)), .val (.int d0), .val (.int d1), .val (.int d2), .unset, .unset, .unset, .unset, .unset, .unset] [(.ref da)]
  refine s_astore H at_47 (L' := #[.val (.int i0), .val (.int i1), .val (.int i2), .val (.int i3), .val (.long i4), .second, .val (.int cc), .val (.int (1 : Int32)), .val (.int d0), .val (.int d1), .val (.int d2), .val (.ref da), .unset, .unset, .unset, .unset, .unset]) rfl rfl (pc' := 49) rfl ?_
  refine s_aload H at_49 rfl rfl (pc' := 51) rfl ?_
  refine s_alenI H at_51 (i := 0) rfl (z := (1 : Int32)) rfl (pc' := 52) rfl ?_
  refine s_istore H at_52 (L' := fun z => #[.val (.int i0), .val (.int i1), .val (.int i2), .val (.int i3), .val (.long i4), .second, .val (.int cc), .val (.int (1 : Int32)), .val (.int d0), .val (.int d1), .val (.int d2), .val (.ref da), .val (.int z), .unset, .unset, .unset, .unset]) (fun _ => rfl) (pc' := 54) rfl (fun z0 hz => ?_)
  subst z0
  refine s_new H (C := "com/example/quintet/quintet/EapPacket") [("com/example/quintet/quintet/EapPacket", "code", "I", (.int (0 : Int32))), ("com/example/quintet/quintet/EapPacket", "identifier", "I", (.int (0 : Int32))), ("com/example/quintet/quintet/EapPacket", "type", "I", (.int (0 : Int32))), ("com/example/quintet/quintet/EapPacket", "data", "[B", .null)] at_54 (mem (i := 5) rfl) (mem (i := 6) rfl) (mem (i := 7) rfl) (allC ⟨Or.inr (mem (i := 20) rfl), .int, by decide, rfl⟩ (allC ⟨Or.inr (mem (i := 22) rfl), .int, by decide, rfl⟩ (allC ⟨Or.inr (mem (i := 24) rfl), .int, by decide, rfl⟩ (allC ⟨Or.inr (mem (i := 26) rfl), (.array .byte), by decide, rfl⟩ allN)))) (by decide) (cn' := 2) (sn' := 5) rfl rfl (by decide) (by decide) (pc' := 57) rfl (fun a1 => ?_)
  refine s_dup H at_57 rfl (pc' := 58) rfl ?_
  refine s_iload H at_58 rfl (pc' := 60) rfl ?_
  refine s_iloadn H at_60 rfl (pc' := 61) rfl ?_
  refine s_iloadn H at_61 rfl (pc' := 62) rfl ?_
  refine s_aload H at_62 rfl rfl (pc' := 64) rfl ?_
  refine s_init H (met_ei H.tb a1 da cc i1 i2) at_64 rfl (mem (i := 8) rfl) (mem (i := 9) rfl) (mem (i := 7) rfl) (mem (i := 10) rfl) (by decide) pd_2 rfl (rest := [(.ref a1)]) rfl rfl (by decide) (Nat.le_of_ble_eq_true rfl) (cn' := 2) (sn' := 5) rfl rfl (by decide) (by decide) (pc' := 67) rfl (fun _ _ hq => ?_)
  obtain ⟨rfl, rfl⟩ := hq
  show Go Z k 2 5 ((a1, Obj Z "com/example/quintet/quintet/EapPacket" [("com/example/quintet/quintet/EapPacket", "code", "I", (.int cc)), ("com/example/quintet/quintet/EapPacket", "identifier", "I", (.int i1)), ("com/example/quintet/quintet/EapPacket", "type", "I", (.int i2)), ("com/example/quintet/quintet/EapPacket", "data", "[B", (.ref da))]) :: (da, ArI Z .byte ([d0] : List Int32)) :: []) 67 #[.val (.int i0), .val (.int i1), .val (.int i2), .val (.int i3), .val (.long i4), .second, .val (.int cc), .val (.int (1 : Int32)), .val (.int d0), .val (.int d1), .val (.int d2), .val (.ref da), .val (.int (1 : Int32)), .unset, .unset, .unset, .unset] [(.ref a1)]
  refine s_astore H at_67 (L' := #[.val (.int i0), .val (.int i1), .val (.int i2), .val (.int i3), .val (.long i4), .second, .val (.int cc), .val (.int (1 : Int32)), .val (.int d0), .val (.int d1), .val (.int d2), .val (.ref da), .val (.int (1 : Int32)), .val (.ref a1), .unset, .unset, .unset]) rfl rfl (pc' := 69) rfl ?_
  refine s_aload H at_69 rfl rfl (pc' := 71) rfl ?_
  refine s_virtual H (met_byf H.tb a1 da cc i1 i2 ([d0] : List Int32) hc) at_71 (i := 0) rfl (mem (i := 27) rfl) (mem (i := 28) rfl) (mem (i := 30) rfl) (mem (i := 29) rfl) (mem (i := 7) rfl) (mem (i := 31) rfl) (by decide) pd_5 rfl (rest := []) rfl rfl (by decide) (Nat.le_of_ble_eq_true rfl) (cn' := 3) (sn' := 9) rfl rfl (by decide) (by decide) (pc' := 74) rfl (fun _ _ hq => ?_)
  obtain ⟨ou, rfl, rfl⟩ := hq
  show Go Z k 3 9 ((ou, ArI Z .byte ([(cc.toInt8.toInt32), (i1.toInt8.toInt32), ((((4 : Int32).toUInt32 >>> ((8 : Int32) &&& 31).toUInt32).toInt32).toInt8.toInt32), ((4 : Int32).toInt8.toInt32)] : List Int32)) :: (a1, Obj Z "com/example/quintet/quintet/EapPacket" [("com/example/quintet/quintet/EapPacket", "code", "I", (.int cc)), ("com/example/quintet/quintet/EapPacket", "identifier", "I", (.int i1)), ("com/example/quintet/quintet/EapPacket", "type", "I", (.int i2)), ("com/example/quintet/quintet/EapPacket", "data", "[B", (.ref da))]) :: (da, ArI Z .byte ([d0] : List Int32)) :: []) 74 #[.val (.int i0), .val (.int i1), .val (.int i2), .val (.int i3), .val (.long i4), .second, .val (.int cc), .val (.int (1 : Int32)), .val (.int d0), .val (.int d1), .val (.int d2), .val (.ref da), .val (.int (1 : Int32)), .val (.ref a1), .unset, .unset, .unset] [(.ref ou)]
  refine s_astore H at_74 (L' := #[.val (.int i0), .val (.int i1), .val (.int i2), .val (.int i3), .val (.long i4), .second, .val (.int cc), .val (.int (1 : Int32)), .val (.int d0), .val (.int d1), .val (.int d2), .val (.ref da), .val (.int (1 : Int32)), .val (.ref a1), .val (.ref ou), .unset, .unset]) rfl rfl (pc' := 76) rfl ?_
  refine s_iload H at_76 rfl (pc' := 78) rfl ?_
  refine s_iconst H at_78 (z := (1 : Int32)) (by decide) (pc' := 79) rfl ?_
  refine s_icmp H at_79 (py := 88) (pc' := 82) q_eq (by decide) rfl (fun c79 => ?_) (fun c79 => ?_)
  · exact absurd (Or.inl c79) hc
  · refine s_iload H at_82 rfl (pc' := 84) rfl ?_
    refine s_iconst H at_84 (z := (2 : Int32)) (by decide) (pc' := 85) rfl ?_
    refine s_icmp H at_85 (py := 92) (pc' := 88) q_ne (by decide) rfl (fun c85 => ?_) (fun c85 => ?_)
    · refine s_iconst H at_92 (z := (0 : Int32)) (by decide) (pc' := 93) rfl ?_
      refine s_istore H at_93 (L' := fun z => #[.val (.int i0), .val (.int i1), .val (.int i2), .val (.int i3), .val (.long i4), .second, .val (.int cc), .val (.int (1 : Int32)), .val (.int d0), .val (.int d1), .val (.int d2), .val (.ref da), .val (.int (1 : Int32)), .val (.ref a1), .val (.ref ou), .val (.int z), .unset]) (fun _ => rfl) (pc' := 95) rfl (fun z0 hz => ?_)
      subst z0
      refine s_iload H at_95 rfl (pc' := 97) rfl ?_
      refine s_if H at_97 (py := 107) (pc' := 100) z_eq (by decide) rfl (fun c97 => ?_) (fun c97 => ?_)
      · refine s_iconst H at_107 (z := (4 : Int32)) (by decide) (pc' := 108) rfl ?_
        refine s_istore H at_108 (L' := fun z => #[.val (.int i0), .val (.int i1), .val (.int i2), .val (.int i3), .val (.long i4), .second, .val (.int cc), .val (.int (1 : Int32)), .val (.int d0), .val (.int d1), .val (.int d2), .val (.ref da), .val (.int (1 : Int32)), .val (.ref a1), .val (.ref ou), .val (.int (0 : Int32)), .val (.int z)]) (fun _ => rfl) (pc' := 110) rfl (fun z0 hz => ?_)
        subst z0
        refine s_aload H at_110 rfl rfl (pc' := 112) rfl ?_
        refine s_alenI H at_112 (i := 0) rfl (z := (4 : Int32)) rfl (pc' := 113) rfl ?_
        refine s_iload H at_113 rfl (pc' := 115) rfl ?_
        refine s_icmp H at_115 (py := 120) (pc' := 118) q_eq (by decide) rfl (fun c115 => ?_) (fun c115 => ?_)
        · refine s_aload H at_120 rfl rfl (pc' := 122) rfl ?_
          refine s_iconst H at_122 (z := (0 : Int32)) (by decide) (pc' := 123) rfl ?_
          refine s_baload H at_123 (i := 0) rfl (x := (cc.toInt8.toInt32)) (by decide) (jn := 0) (by decide) rfl (pc' := 124) rfl ?_
          refine s_sipush H at_124 (z := (255 : Int32)) (by decide) (pc' := 127) rfl ?_
          refine s_iand H at_127 (pc' := 128) rfl ?_
          refine s_iload H at_128 rfl (pc' := 130) rfl ?_
          refine s_icmp H at_130 (py := 135) (pc' := 133) q_eq (by decide) rfl (fun c130 => ?_) (fun c130 => ?_)
          · refine s_aload H at_135 rfl rfl (pc' := 137) rfl ?_
            refine s_iconst H at_137 (z := (1 : Int32)) (by decide) (pc' := 138) rfl ?_
            refine s_baload H at_138 (i := 0) rfl (x := (i1.toInt8.toInt32)) (by decide) (jn := 1) (by decide) rfl (pc' := 139) rfl ?_
            refine s_sipush H at_139 (z := (255 : Int32)) (by decide) (pc' := 142) rfl ?_
            refine s_iand H at_142 (pc' := 143) rfl ?_
            refine s_iloadn H at_143 rfl (pc' := 144) rfl ?_
            refine s_sipush H at_144 (z := (255 : Int32)) (by decide) (pc' := 147) rfl ?_
            refine s_iand H at_147 (pc' := 148) rfl ?_
            refine s_icmp H at_148 (py := 153) (pc' := 151) q_eq (by decide) rfl (fun c148 => ?_) (fun c148 => ?_)
            · refine s_aload H at_153 rfl rfl (pc' := 155) rfl ?_
              refine s_iconst H at_155 (z := (2 : Int32)) (by decide) (pc' := 156) rfl ?_
              refine s_baload H at_156 (i := 0) rfl (x := ((((4 : Int32).toUInt32 >>> ((8 : Int32) &&& 31).toUInt32).toInt32).toInt8.toInt32)) (by decide) (jn := 2) (by decide) rfl (pc' := 157) rfl ?_
              refine s_sipush H at_157 (z := (255 : Int32)) (by decide) (pc' := 160) rfl ?_
              refine s_iand H at_160 (pc' := 161) rfl ?_
              refine s_bipush H at_161 (z := (8 : Int32)) (by decide) (pc' := 163) rfl ?_
              refine s_ishl H at_163 (pc' := 164) rfl ?_
              refine s_aload H at_164 rfl rfl (pc' := 166) rfl ?_
              refine s_iconst H at_166 (z := (3 : Int32)) (by decide) (pc' := 167) rfl ?_
              refine s_baload H at_167 (i := 0) rfl (x := ((4 : Int32).toInt8.toInt32)) (by decide) (jn := 3) (by decide) rfl (pc' := 168) rfl ?_
              refine s_sipush H at_168 (z := (255 : Int32)) (by decide) (pc' := 171) rfl ?_
              refine s_iand H at_171 (pc' := 172) rfl ?_
              refine s_ior H at_172 (pc' := 173) rfl ?_
              refine s_iload H at_173 rfl (pc' := 175) rfl ?_
              refine s_icmp H at_175 (py := 180) (pc' := 178) q_eq (by decide) rfl (fun c175 => ?_) (fun c175 => ?_)
              · refine s_iload H at_180 rfl (pc' := 182) rfl ?_
                refine s_if H at_182 (py := 187) (pc' := 185) z_ne (by decide) rfl (fun c182 => ?_) (fun c182 => ?_)
                · exact absurd c182 (by decide)
                · refine s_iconst H at_185 (z := (1 : Int32)) (by decide) (pc' := 186) rfl ?_
                  exact s_iret H at_186 rfl (by simp) (by decide) (by decide) (rfl)
              · exact absurd (by decide) c175
            · exact absurd (own_b255 i1) c148
          · exact absurd (own_code hc0 hc7) c130
        · exact absurd c115 (by decide)
      · exact absurd c97 (by decide)
    · exact absurd (Or.inr (Classical.not_not.mp c85)) hc
set_option maxRecDepth 65536 in
set_option maxHeartbeats 40000000 in
theorem s36_2_1 {Z : State} {k : Cx} {i0 i1 i2 i3 d0 d1 d2 : Int32} {i4 : Int64} (H : Ok Z k room_1 (LQ) x code maxLocals ret) (h0 : nar .byte d0 = d0) (h1 : nar .byte d1 = d1) (h2 : nar .byte d2 = d2) : Go Z k 0 0 ([] : Hp) 36 #[.val (.int i0), .val (.int i1), .val (.int i2), .val (.int i3), .val (.long i4), .second, .val (.int (1 : Int32)), .val (.int (2 : Int32)), .val (.int d0), .val (.int d1), .val (.int d2), .unset, .unset, .unset, .unset, .unset, .unset] [] := by
  refine s_iload H at_36 rfl (pc' := 38) rfl ?_
  refine s_iload H at_38 rfl (pc' := 40) rfl ?_
  refine s_iload H at_40 rfl (pc' := 42) rfl ?_
  refine s_iload H at_42 rfl (pc' := 44) rfl ?_
  refine s_static H (met_md2 H.tb d0 d1 d2 h0 h1 h2) at_44 (mem (i := 0) rfl) (mem (i := 1) rfl) (mem (i := 2) rfl) (mem (i := 3) rfl) (by decide) pd_1 rfl (rest := []) rfl rfl (by decide) (Nat.le_of_ble_eq_true rfl) (cn' := 1) (sn' := 2) rfl rfl (by decide) (by decide) (pc' := 47) rfl (fun _ _ hq => ?_)
  obtain ⟨da, rfl, rfl⟩ := hq
  show Go Z k 1 2 ((da, ArI Z .byte ([d0, d1] : List Int32)) :: []) 47 #[.val (.int i0), .val (.int i1), .val (.int i2), .val (.int i3), .val (.long i4), .second, .val (.int (1 : Int32)), .val (.int (2 : Int32)), .val (.int d0), .val (.int d1), .val (.int d2), .unset, .unset, .unset, .unset, .unset, .unset] [(.ref da)]
  refine s_astore H at_47 (L' := #[.val (.int i0), .val (.int i1), .val (.int i2), .val (.int i3), .val (.long i4), .second, .val (.int (1 : Int32)), .val (.int (2 : Int32)), .val (.int d0), .val (.int d1), .val (.int d2), .val (.ref da), .unset, .unset, .unset, .unset, .unset]) rfl rfl (pc' := 49) rfl ?_
  refine s_aload H at_49 rfl rfl (pc' := 51) rfl ?_
  refine s_alenI H at_51 (i := 0) rfl (z := (2 : Int32)) rfl (pc' := 52) rfl ?_
  refine s_istore H at_52 (L' := fun z => #[.val (.int i0), .val (.int i1), .val (.int i2), .val (.int i3), .val (.long i4), .second, .val (.int (1 : Int32)), .val (.int (2 : Int32)), .val (.int d0), .val (.int d1), .val (.int d2), .val (.ref da), .val (.int z), .unset, .unset, .unset, .unset]) (fun _ => rfl) (pc' := 54) rfl (fun z0 hz => ?_)
  subst z0
  refine s_new H (C := "com/example/quintet/quintet/EapPacket") [("com/example/quintet/quintet/EapPacket", "code", "I", (.int (0 : Int32))), ("com/example/quintet/quintet/EapPacket", "identifier", "I", (.int (0 : Int32))), ("com/example/quintet/quintet/EapPacket", "type", "I", (.int (0 : Int32))), ("com/example/quintet/quintet/EapPacket", "data", "[B", .null)] at_54 (mem (i := 5) rfl) (mem (i := 6) rfl) (mem (i := 7) rfl) (allC ⟨Or.inr (mem (i := 20) rfl), .int, by decide, rfl⟩ (allC ⟨Or.inr (mem (i := 22) rfl), .int, by decide, rfl⟩ (allC ⟨Or.inr (mem (i := 24) rfl), .int, by decide, rfl⟩ (allC ⟨Or.inr (mem (i := 26) rfl), (.array .byte), by decide, rfl⟩ allN)))) (by decide) (cn' := 2) (sn' := 6) rfl rfl (by decide) (by decide) (pc' := 57) rfl (fun a1 => ?_)
  refine s_dup H at_57 rfl (pc' := 58) rfl ?_
  refine s_iload H at_58 rfl (pc' := 60) rfl ?_
  refine s_iloadn H at_60 rfl (pc' := 61) rfl ?_
  refine s_iloadn H at_61 rfl (pc' := 62) rfl ?_
  refine s_aload H at_62 rfl rfl (pc' := 64) rfl ?_
  refine s_init H (met_ei H.tb a1 da (1 : Int32) i1 i2) at_64 rfl (mem (i := 8) rfl) (mem (i := 9) rfl) (mem (i := 7) rfl) (mem (i := 10) rfl) (by decide) pd_2 rfl (rest := [(.ref a1)]) rfl rfl (by decide) (Nat.le_of_ble_eq_true rfl) (cn' := 2) (sn' := 6) rfl rfl (by decide) (by decide) (pc' := 67) rfl (fun _ _ hq => ?_)
  obtain ⟨rfl, rfl⟩ := hq
  show Go Z k 2 6 ((a1, Obj Z "com/example/quintet/quintet/EapPacket" [("com/example/quintet/quintet/EapPacket", "code", "I", (.int (1 : Int32))), ("com/example/quintet/quintet/EapPacket", "identifier", "I", (.int i1)), ("com/example/quintet/quintet/EapPacket", "type", "I", (.int i2)), ("com/example/quintet/quintet/EapPacket", "data", "[B", (.ref da))]) :: (da, ArI Z .byte ([d0, d1] : List Int32)) :: []) 67 #[.val (.int i0), .val (.int i1), .val (.int i2), .val (.int i3), .val (.long i4), .second, .val (.int (1 : Int32)), .val (.int (2 : Int32)), .val (.int d0), .val (.int d1), .val (.int d2), .val (.ref da), .val (.int (2 : Int32)), .unset, .unset, .unset, .unset] [(.ref a1)]
  refine s_astore H at_67 (L' := #[.val (.int i0), .val (.int i1), .val (.int i2), .val (.int i3), .val (.long i4), .second, .val (.int (1 : Int32)), .val (.int (2 : Int32)), .val (.int d0), .val (.int d1), .val (.int d2), .val (.ref da), .val (.int (2 : Int32)), .val (.ref a1), .unset, .unset, .unset]) rfl rfl (pc' := 69) rfl ?_
  refine s_aload H at_69 rfl rfl (pc' := 71) rfl ?_
  refine s_virtual H (met_byt H.tb a1 da (1 : Int32) i1 i2 ([d0, d1] : List Int32) (by decide) (Nat.le_of_ble_eq_true rfl)) at_71 (i := 0) rfl (mem (i := 27) rfl) (mem (i := 28) rfl) (mem (i := 30) rfl) (mem (i := 29) rfl) (mem (i := 7) rfl) (mem (i := 31) rfl) (by decide) pd_5 rfl (rest := []) rfl rfl (by decide) (Nat.le_of_ble_eq_true rfl) (cn' := 3) (sn' := 311) rfl rfl (by decide) (by decide) (pc' := 74) rfl (fun _ _ hq => ?_)
  obtain ⟨ou, rfl, rfl⟩ := hq
  show Go Z k 3 311 ((ou, ArI Z .byte ([((1 : Int32).toInt8.toInt32), (i1.toInt8.toInt32), ((((7 : Nat).toInt32.toUInt32 >>> ((8 : Int32) &&& 31).toUInt32).toInt32).toInt8.toInt32), ((7 : Nat).toInt32.toInt8.toInt32), (i2.toInt8.toInt32), d0, d1] : List Int32)) :: (a1, Obj Z "com/example/quintet/quintet/EapPacket" [("com/example/quintet/quintet/EapPacket", "code", "I", (.int (1 : Int32))), ("com/example/quintet/quintet/EapPacket", "identifier", "I", (.int i1)), ("com/example/quintet/quintet/EapPacket", "type", "I", (.int i2)), ("com/example/quintet/quintet/EapPacket", "data", "[B", (.ref da))]) :: (da, ArI Z .byte ([d0, d1] : List Int32)) :: []) 74 #[.val (.int i0), .val (.int i1), .val (.int i2), .val (.int i3), .val (.long i4), .second, .val (.int (1 : Int32)), .val (.int (2 : Int32)), .val (.int d0), .val (.int d1), .val (.int d2), .val (.ref da), .val (.int (2 : Int32)), .val (.ref a1), .unset, .unset, .unset] [(.ref ou)]
  refine s_astore H at_74 (L' := #[.val (.int i0), .val (.int i1), .val (.int i2), .val (.int i3), .val (.long i4), .second, .val (.int (1 : Int32)), .val (.int (2 : Int32)), .val (.int d0), .val (.int d1), .val (.int d2), .val (.ref da), .val (.int (2 : Int32)), .val (.ref a1), .val (.ref ou), .unset, .unset]) rfl rfl (pc' := 76) rfl ?_
  refine s_iload H at_76 rfl (pc' := 78) rfl ?_
  refine s_iconst H at_78 (z := (1 : Int32)) (by decide) (pc' := 79) rfl ?_
  refine s_icmp H at_79 (py := 88) (pc' := 82) q_eq (by decide) rfl (fun c79 => ?_) (fun c79 => ?_)
  · refine s_iconst H at_88 (z := (1 : Int32)) (by decide) (pc' := 89) rfl ?_
    refine s_goto H at_89 (pc' := 93) (by decide) ?_
    refine s_istore H at_93 (L' := fun z => #[.val (.int i0), .val (.int i1), .val (.int i2), .val (.int i3), .val (.long i4), .second, .val (.int (1 : Int32)), .val (.int (2 : Int32)), .val (.int d0), .val (.int d1), .val (.int d2), .val (.ref da), .val (.int (2 : Int32)), .val (.ref a1), .val (.ref ou), .val (.int z), .unset]) (fun _ => rfl) (pc' := 95) rfl (fun z0 hz => ?_)
    subst z0
    refine s_iload H at_95 rfl (pc' := 97) rfl ?_
    refine s_if H at_97 (py := 107) (pc' := 100) z_eq (by decide) rfl (fun c97 => ?_) (fun c97 => ?_)
    · exact absurd c97 (by decide)
    · refine s_iconst H at_100 (z := (5 : Int32)) (by decide) (pc' := 101) rfl ?_
      refine s_iload H at_101 rfl (pc' := 103) rfl ?_
      refine s_iadd H at_103 (pc' := 104) rfl ?_
      refine s_goto H at_104 (pc' := 108) (by decide) ?_
      refine s_istore H at_108 (L' := fun z => #[.val (.int i0), .val (.int i1), .val (.int i2), .val (.int i3), .val (.long i4), .second, .val (.int (1 : Int32)), .val (.int (2 : Int32)), .val (.int d0), .val (.int d1), .val (.int d2), .val (.ref da), .val (.int (2 : Int32)), .val (.ref a1), .val (.ref ou), .val (.int (1 : Int32)), .val (.int z)]) (fun _ => rfl) (pc' := 110) rfl (fun z0 hz => ?_)
      subst z0
      refine s_aload H at_110 rfl rfl (pc' := 112) rfl ?_
      refine s_alenI H at_112 (i := 0) rfl (z := (7 : Int32)) rfl (pc' := 113) rfl ?_
      refine s_iload H at_113 rfl (pc' := 115) rfl ?_
      refine s_icmp H at_115 (py := 120) (pc' := 118) q_eq (by decide) rfl (fun c115 => ?_) (fun c115 => ?_)
      · refine s_aload H at_120 rfl rfl (pc' := 122) rfl ?_
        refine s_iconst H at_122 (z := (0 : Int32)) (by decide) (pc' := 123) rfl ?_
        refine s_baload H at_123 (i := 0) rfl (x := ((1 : Int32).toInt8.toInt32)) (by decide) (jn := 0) (by decide) rfl (pc' := 124) rfl ?_
        refine s_sipush H at_124 (z := (255 : Int32)) (by decide) (pc' := 127) rfl ?_
        refine s_iand H at_127 (pc' := 128) rfl ?_
        refine s_iload H at_128 rfl (pc' := 130) rfl ?_
        refine s_icmp H at_130 (py := 135) (pc' := 133) q_eq (by decide) rfl (fun c130 => ?_) (fun c130 => ?_)
        · refine s_aload H at_135 rfl rfl (pc' := 137) rfl ?_
          refine s_iconst H at_137 (z := (1 : Int32)) (by decide) (pc' := 138) rfl ?_
          refine s_baload H at_138 (i := 0) rfl (x := (i1.toInt8.toInt32)) (by decide) (jn := 1) (by decide) rfl (pc' := 139) rfl ?_
          refine s_sipush H at_139 (z := (255 : Int32)) (by decide) (pc' := 142) rfl ?_
          refine s_iand H at_142 (pc' := 143) rfl ?_
          refine s_iloadn H at_143 rfl (pc' := 144) rfl ?_
          refine s_sipush H at_144 (z := (255 : Int32)) (by decide) (pc' := 147) rfl ?_
          refine s_iand H at_147 (pc' := 148) rfl ?_
          refine s_icmp H at_148 (py := 153) (pc' := 151) q_eq (by decide) rfl (fun c148 => ?_) (fun c148 => ?_)
          · refine s_aload H at_153 rfl rfl (pc' := 155) rfl ?_
            refine s_iconst H at_155 (z := (2 : Int32)) (by decide) (pc' := 156) rfl ?_
            refine s_baload H at_156 (i := 0) rfl (x := ((((7 : Nat).toInt32.toUInt32 >>> ((8 : Int32) &&& 31).toUInt32).toInt32).toInt8.toInt32)) (by decide) (jn := 2) (by decide) rfl (pc' := 157) rfl ?_
            refine s_sipush H at_157 (z := (255 : Int32)) (by decide) (pc' := 160) rfl ?_
            refine s_iand H at_160 (pc' := 161) rfl ?_
            refine s_bipush H at_161 (z := (8 : Int32)) (by decide) (pc' := 163) rfl ?_
            refine s_ishl H at_163 (pc' := 164) rfl ?_
            refine s_aload H at_164 rfl rfl (pc' := 166) rfl ?_
            refine s_iconst H at_166 (z := (3 : Int32)) (by decide) (pc' := 167) rfl ?_
            refine s_baload H at_167 (i := 0) rfl (x := ((7 : Nat).toInt32.toInt8.toInt32)) (by decide) (jn := 3) (by decide) rfl (pc' := 168) rfl ?_
            refine s_sipush H at_168 (z := (255 : Int32)) (by decide) (pc' := 171) rfl ?_
            refine s_iand H at_171 (pc' := 172) rfl ?_
            refine s_ior H at_172 (pc' := 173) rfl ?_
            refine s_iload H at_173 rfl (pc' := 175) rfl ?_
            refine s_icmp H at_175 (py := 180) (pc' := 178) q_eq (by decide) rfl (fun c175 => ?_) (fun c175 => ?_)
            · refine s_iload H at_180 rfl (pc' := 182) rfl ?_
              refine s_if H at_182 (py := 187) (pc' := 185) z_ne (by decide) rfl (fun c182 => ?_) (fun c182 => ?_)
              · refine s_aload H at_187 rfl rfl (pc' := 189) rfl ?_
                refine s_iconst H at_189 (z := (4 : Int32)) (by decide) (pc' := 190) rfl ?_
                refine s_baload H at_190 (i := 0) rfl (x := (i2.toInt8.toInt32)) (by decide) (jn := 4) (by decide) rfl (pc' := 191) rfl ?_
                refine s_sipush H at_191 (z := (255 : Int32)) (by decide) (pc' := 194) rfl ?_
                refine s_iand H at_194 (pc' := 195) rfl ?_
                refine s_iloadn H at_195 rfl (pc' := 196) rfl ?_
                refine s_sipush H at_196 (z := (255 : Int32)) (by decide) (pc' := 199) rfl ?_
                refine s_iand H at_199 (pc' := 200) rfl ?_
                refine s_icmp H at_200 (py := 205) (pc' := 203) q_eq (by decide) rfl (fun c200 => ?_) (fun c200 => ?_)
                · refine s_iload H at_205 rfl (pc' := 207) rfl ?_
                  refine s_iconst H at_207 (z := (3 : Int32)) (by decide) (pc' := 208) rfl ?_
                  refine s_icmp H at_208 (py := 218) (pc' := 211) q_le (by decide) rfl (fun c208 => ?_) (fun c208 => ?_)
                  · refine s_iload H at_218 rfl (pc' := 220) rfl ?_
                    refine s_iconst H at_220 (z := (1 : Int32)) (by decide) (pc' := 221) rfl ?_
                    refine s_icmp H at_221 (py := 235) (pc' := 224) q_lt (by decide) rfl (fun c221 => ?_) (fun c221 => ?_)
                    · exact absurd c221 (by decide)
                    · refine s_aload H at_224 rfl rfl (pc' := 226) rfl ?_
                      refine s_iconst H at_226 (z := (5 : Int32)) (by decide) (pc' := 227) rfl ?_
                      refine s_baload H at_227 (i := 0) rfl (x := d0) (by decide) (jn := 5) (by decide) rfl (pc' := 228) rfl ?_
                      refine s_iload H at_228 rfl (pc' := 230) rfl ?_
                      refine s_icmp H at_230 (py := 235) (pc' := 233) q_eq (by decide) rfl (fun c230 => ?_) (fun c230 => ?_)
                      · refine s_iload H at_235 rfl (pc' := 237) rfl ?_
                        refine s_iconst H at_237 (z := (2 : Int32)) (by decide) (pc' := 238) rfl ?_
                        refine s_icmp H at_238 (py := 253) (pc' := 241) q_lt (by decide) rfl (fun c238 => ?_) (fun c238 => ?_)
                        · exact absurd c238 (by decide)
                        · refine s_aload H at_241 rfl rfl (pc' := 243) rfl ?_
                          refine s_bipush H at_243 (z := (6 : Int32)) (by decide) (pc' := 245) rfl ?_
                          refine s_baload H at_245 (i := 0) rfl (x := d1) (by decide) (jn := 6) (by decide) rfl (pc' := 246) rfl ?_
                          refine s_iload H at_246 rfl (pc' := 248) rfl ?_
                          refine s_icmp H at_248 (py := 253) (pc' := 251) q_eq (by decide) rfl (fun c248 => ?_) (fun c248 => ?_)
                          · refine s_iload H at_253 rfl (pc' := 255) rfl ?_
                            refine s_iconst H at_255 (z := (3 : Int32)) (by decide) (pc' := 256) rfl ?_
                            refine s_icmp H at_256 (py := 271) (pc' := 259) q_lt (by decide) rfl (fun c256 => ?_) (fun c256 => ?_)
                            · refine s_iload H at_271 rfl (pc' := 273) rfl ?_
                              refine s_iconst H at_273 (z := (4 : Int32)) (by decide) (pc' := 274) rfl ?_
                              refine s_icmp H at_274 (py := 289) (pc' := 277) q_lt (by decide) rfl (fun c274 => ?_) (fun c274 => ?_)
                              · refine s_iconst H at_289 (z := (1 : Int32)) (by decide) (pc' := 290) rfl ?_
                                exact s_iret H at_290 rfl (by simp) (by decide) (by decide) (rfl)
                              · exact absurd c274 (by decide)
                            · exact absurd c256 (by decide)
                          · exact absurd rfl c248
                      · exact absurd rfl c230
                  · exact absurd c208 (by decide)
                · exact absurd (own_b255 i2) c200
              · exact absurd c182 (by decide)
            · exact absurd (own_len16 ⟨7, by decide⟩) c175
          · exact absurd (own_b255 i1) c148
        · exact absurd (by decide) c130
      · exact absurd c115 (by decide)
  · exact absurd c79 (by decide)
set_option maxRecDepth 65536 in
set_option maxHeartbeats 40000000 in
theorem s36_2_2 {Z : State} {k : Cx} {i0 i1 i2 i3 d0 d1 d2 : Int32} {i4 : Int64} (H : Ok Z k room_1 (LQ) x code maxLocals ret) (h0 : nar .byte d0 = d0) (h1 : nar .byte d1 = d1) (h2 : nar .byte d2 = d2) : Go Z k 0 0 ([] : Hp) 36 #[.val (.int i0), .val (.int i1), .val (.int i2), .val (.int i3), .val (.long i4), .second, .val (.int (2 : Int32)), .val (.int (2 : Int32)), .val (.int d0), .val (.int d1), .val (.int d2), .unset, .unset, .unset, .unset, .unset, .unset] [] := by
  refine s_iload H at_36 rfl (pc' := 38) rfl ?_
  refine s_iload H at_38 rfl (pc' := 40) rfl ?_
  refine s_iload H at_40 rfl (pc' := 42) rfl ?_
  refine s_iload H at_42 rfl (pc' := 44) rfl ?_
  refine s_static H (met_md2 H.tb d0 d1 d2 h0 h1 h2) at_44 (mem (i := 0) rfl) (mem (i := 1) rfl) (mem (i := 2) rfl) (mem (i := 3) rfl) (by decide) pd_1 rfl (rest := []) rfl rfl (by decide) (Nat.le_of_ble_eq_true rfl) (cn' := 1) (sn' := 2) rfl rfl (by decide) (by decide) (pc' := 47) rfl (fun _ _ hq => ?_)
  obtain ⟨da, rfl, rfl⟩ := hq
  show Go Z k 1 2 ((da, ArI Z .byte ([d0, d1] : List Int32)) :: []) 47 #[.val (.int i0), .val (.int i1), .val (.int i2), .val (.int i3), .val (.long i4), .second, .val (.int (2 : Int32)), .val (.int (2 : Int32)), .val (.int d0), .val (.int d1), .val (.int d2), .unset, .unset, .unset, .unset, .unset, .unset] [(.ref da)]
  refine s_astore H at_47 (L' := #[.val (.int i0), .val (.int i1), .val (.int i2), .val (.int i3), .val (.long i4), .second, .val (.int (2 : Int32)), .val (.int (2 : Int32)), .val (.int d0), .val (.int d1), .val (.int d2), .val (.ref da), .unset, .unset, .unset, .unset, .unset]) rfl rfl (pc' := 49) rfl ?_
  refine s_aload H at_49 rfl rfl (pc' := 51) rfl ?_
  refine s_alenI H at_51 (i := 0) rfl (z := (2 : Int32)) rfl (pc' := 52) rfl ?_
  refine s_istore H at_52 (L' := fun z => #[.val (.int i0), .val (.int i1), .val (.int i2), .val (.int i3), .val (.long i4), .second, .val (.int (2 : Int32)), .val (.int (2 : Int32)), .val (.int d0), .val (.int d1), .val (.int d2), .val (.ref da), .val (.int z), .unset, .unset, .unset, .unset]) (fun _ => rfl) (pc' := 54) rfl (fun z0 hz => ?_)
  subst z0
  refine s_new H (C := "com/example/quintet/quintet/EapPacket") [("com/example/quintet/quintet/EapPacket", "code", "I", (.int (0 : Int32))), ("com/example/quintet/quintet/EapPacket", "identifier", "I", (.int (0 : Int32))), ("com/example/quintet/quintet/EapPacket", "type", "I", (.int (0 : Int32))), ("com/example/quintet/quintet/EapPacket", "data", "[B", .null)] at_54 (mem (i := 5) rfl) (mem (i := 6) rfl) (mem (i := 7) rfl) (allC ⟨Or.inr (mem (i := 20) rfl), .int, by decide, rfl⟩ (allC ⟨Or.inr (mem (i := 22) rfl), .int, by decide, rfl⟩ (allC ⟨Or.inr (mem (i := 24) rfl), .int, by decide, rfl⟩ (allC ⟨Or.inr (mem (i := 26) rfl), (.array .byte), by decide, rfl⟩ allN)))) (by decide) (cn' := 2) (sn' := 6) rfl rfl (by decide) (by decide) (pc' := 57) rfl (fun a1 => ?_)
  refine s_dup H at_57 rfl (pc' := 58) rfl ?_
  refine s_iload H at_58 rfl (pc' := 60) rfl ?_
  refine s_iloadn H at_60 rfl (pc' := 61) rfl ?_
  refine s_iloadn H at_61 rfl (pc' := 62) rfl ?_
  refine s_aload H at_62 rfl rfl (pc' := 64) rfl ?_
  refine s_init H (met_ei H.tb a1 da (2 : Int32) i1 i2) at_64 rfl (mem (i := 8) rfl) (mem (i := 9) rfl) (mem (i := 7) rfl) (mem (i := 10) rfl) (by decide) pd_2 rfl (rest := [(.ref a1)]) rfl rfl (by decide) (Nat.le_of_ble_eq_true rfl) (cn' := 2) (sn' := 6) rfl rfl (by decide) (by decide) (pc' := 67) rfl (fun _ _ hq => ?_)
  obtain ⟨rfl, rfl⟩ := hq
  show Go Z k 2 6 ((a1, Obj Z "com/example/quintet/quintet/EapPacket" [("com/example/quintet/quintet/EapPacket", "code", "I", (.int (2 : Int32))), ("com/example/quintet/quintet/EapPacket", "identifier", "I", (.int i1)), ("com/example/quintet/quintet/EapPacket", "type", "I", (.int i2)), ("com/example/quintet/quintet/EapPacket", "data", "[B", (.ref da))]) :: (da, ArI Z .byte ([d0, d1] : List Int32)) :: []) 67 #[.val (.int i0), .val (.int i1), .val (.int i2), .val (.int i3), .val (.long i4), .second, .val (.int (2 : Int32)), .val (.int (2 : Int32)), .val (.int d0), .val (.int d1), .val (.int d2), .val (.ref da), .val (.int (2 : Int32)), .unset, .unset, .unset, .unset] [(.ref a1)]
  refine s_astore H at_67 (L' := #[.val (.int i0), .val (.int i1), .val (.int i2), .val (.int i3), .val (.long i4), .second, .val (.int (2 : Int32)), .val (.int (2 : Int32)), .val (.int d0), .val (.int d1), .val (.int d2), .val (.ref da), .val (.int (2 : Int32)), .val (.ref a1), .unset, .unset, .unset]) rfl rfl (pc' := 69) rfl ?_
  refine s_aload H at_69 rfl rfl (pc' := 71) rfl ?_
  refine s_virtual H (met_byt H.tb a1 da (2 : Int32) i1 i2 ([d0, d1] : List Int32) (by decide) (Nat.le_of_ble_eq_true rfl)) at_71 (i := 0) rfl (mem (i := 27) rfl) (mem (i := 28) rfl) (mem (i := 30) rfl) (mem (i := 29) rfl) (mem (i := 7) rfl) (mem (i := 31) rfl) (by decide) pd_5 rfl (rest := []) rfl rfl (by decide) (Nat.le_of_ble_eq_true rfl) (cn' := 3) (sn' := 311) rfl rfl (by decide) (by decide) (pc' := 74) rfl (fun _ _ hq => ?_)
  obtain ⟨ou, rfl, rfl⟩ := hq
  show Go Z k 3 311 ((ou, ArI Z .byte ([((2 : Int32).toInt8.toInt32), (i1.toInt8.toInt32), ((((7 : Nat).toInt32.toUInt32 >>> ((8 : Int32) &&& 31).toUInt32).toInt32).toInt8.toInt32), ((7 : Nat).toInt32.toInt8.toInt32), (i2.toInt8.toInt32), d0, d1] : List Int32)) :: (a1, Obj Z "com/example/quintet/quintet/EapPacket" [("com/example/quintet/quintet/EapPacket", "code", "I", (.int (2 : Int32))), ("com/example/quintet/quintet/EapPacket", "identifier", "I", (.int i1)), ("com/example/quintet/quintet/EapPacket", "type", "I", (.int i2)), ("com/example/quintet/quintet/EapPacket", "data", "[B", (.ref da))]) :: (da, ArI Z .byte ([d0, d1] : List Int32)) :: []) 74 #[.val (.int i0), .val (.int i1), .val (.int i2), .val (.int i3), .val (.long i4), .second, .val (.int (2 : Int32)), .val (.int (2 : Int32)), .val (.int d0), .val (.int d1), .val (.int d2), .val (.ref da), .val (.int (2 : Int32)), .val (.ref a1), .unset, .unset, .unset] [(.ref ou)]
  refine s_astore H at_74 (L' := #[.val (.int i0), .val (.int i1), .val (.int i2), .val (.int i3), .val (.long i4), .second, .val (.int (2 : Int32)), .val (.int (2 : Int32)), .val (.int d0), .val (.int d1), .val (.int d2), .val (.ref da), .val (.int (2 : Int32)), .val (.ref a1), .val (.ref ou), .unset, .unset]) rfl rfl (pc' := 76) rfl ?_
  refine s_iload H at_76 rfl (pc' := 78) rfl ?_
  refine s_iconst H at_78 (z := (1 : Int32)) (by decide) (pc' := 79) rfl ?_
  refine s_icmp H at_79 (py := 88) (pc' := 82) q_eq (by decide) rfl (fun c79 => ?_) (fun c79 => ?_)
  · exact absurd c79 (by decide)
  · refine s_iload H at_82 rfl (pc' := 84) rfl ?_
    refine s_iconst H at_84 (z := (2 : Int32)) (by decide) (pc' := 85) rfl ?_
    refine s_icmp H at_85 (py := 92) (pc' := 88) q_ne (by decide) rfl (fun c85 => ?_) (fun c85 => ?_)
    · exact absurd c85 (by decide)
    · refine s_iconst H at_88 (z := (1 : Int32)) (by decide) (pc' := 89) rfl ?_
      refine s_goto H at_89 (pc' := 93) (by decide) ?_
      refine s_istore H at_93 (L' := fun z => #[.val (.int i0), .val (.int i1), .val (.int i2), .val (.int i3), .val (.long i4), .second, .val (.int (2 : Int32)), .val (.int (2 : Int32)), .val (.int d0), .val (.int d1), .val (.int d2), .val (.ref da), .val (.int (2 : Int32)), .val (.ref a1), .val (.ref ou), .val (.int z), .unset]) (fun _ => rfl) (pc' := 95) rfl (fun z0 hz => ?_)
      subst z0
      refine s_iload H at_95 rfl (pc' := 97) rfl ?_
      refine s_if H at_97 (py := 107) (pc' := 100) z_eq (by decide) rfl (fun c97 => ?_) (fun c97 => ?_)
      · exact absurd c97 (by decide)
      · refine s_iconst H at_100 (z := (5 : Int32)) (by decide) (pc' := 101) rfl ?_
        refine s_iload H at_101 rfl (pc' := 103) rfl ?_
        refine s_iadd H at_103 (pc' := 104) rfl ?_
        refine s_goto H at_104 (pc' := 108) (by decide) ?_
        refine s_istore H at_108 (L' := fun z => #[.val (.int i0), .val (.int i1), .val (.int i2), .val (.int i3), .val (.long i4), .second, .val (.int (2 : Int32)), .val (.int (2 : Int32)), .val (.int d0), .val (.int d1), .val (.int d2), .val (.ref da), .val (.int (2 : Int32)), .val (.ref a1), .val (.ref ou), .val (.int (1 : Int32)), .val (.int z)]) (fun _ => rfl) (pc' := 110) rfl (fun z0 hz => ?_)
        subst z0
        refine s_aload H at_110 rfl rfl (pc' := 112) rfl ?_
        refine s_alenI H at_112 (i := 0) rfl (z := (7 : Int32)) rfl (pc' := 113) rfl ?_
        refine s_iload H at_113 rfl (pc' := 115) rfl ?_
        refine s_icmp H at_115 (py := 120) (pc' := 118) q_eq (by decide) rfl (fun c115 => ?_) (fun c115 => ?_)
        · refine s_aload H at_120 rfl rfl (pc' := 122) rfl ?_
          refine s_iconst H at_122 (z := (0 : Int32)) (by decide) (pc' := 123) rfl ?_
          refine s_baload H at_123 (i := 0) rfl (x := ((2 : Int32).toInt8.toInt32)) (by decide) (jn := 0) (by decide) rfl (pc' := 124) rfl ?_
          refine s_sipush H at_124 (z := (255 : Int32)) (by decide) (pc' := 127) rfl ?_
          refine s_iand H at_127 (pc' := 128) rfl ?_
          refine s_iload H at_128 rfl (pc' := 130) rfl ?_
          refine s_icmp H at_130 (py := 135) (pc' := 133) q_eq (by decide) rfl (fun c130 => ?_) (fun c130 => ?_)
          · refine s_aload H at_135 rfl rfl (pc' := 137) rfl ?_
            refine s_iconst H at_137 (z := (1 : Int32)) (by decide) (pc' := 138) rfl ?_
            refine s_baload H at_138 (i := 0) rfl (x := (i1.toInt8.toInt32)) (by decide) (jn := 1) (by decide) rfl (pc' := 139) rfl ?_
            refine s_sipush H at_139 (z := (255 : Int32)) (by decide) (pc' := 142) rfl ?_
            refine s_iand H at_142 (pc' := 143) rfl ?_
            refine s_iloadn H at_143 rfl (pc' := 144) rfl ?_
            refine s_sipush H at_144 (z := (255 : Int32)) (by decide) (pc' := 147) rfl ?_
            refine s_iand H at_147 (pc' := 148) rfl ?_
            refine s_icmp H at_148 (py := 153) (pc' := 151) q_eq (by decide) rfl (fun c148 => ?_) (fun c148 => ?_)
            · refine s_aload H at_153 rfl rfl (pc' := 155) rfl ?_
              refine s_iconst H at_155 (z := (2 : Int32)) (by decide) (pc' := 156) rfl ?_
              refine s_baload H at_156 (i := 0) rfl (x := ((((7 : Nat).toInt32.toUInt32 >>> ((8 : Int32) &&& 31).toUInt32).toInt32).toInt8.toInt32)) (by decide) (jn := 2) (by decide) rfl (pc' := 157) rfl ?_
              refine s_sipush H at_157 (z := (255 : Int32)) (by decide) (pc' := 160) rfl ?_
              refine s_iand H at_160 (pc' := 161) rfl ?_
              refine s_bipush H at_161 (z := (8 : Int32)) (by decide) (pc' := 163) rfl ?_
              refine s_ishl H at_163 (pc' := 164) rfl ?_
              refine s_aload H at_164 rfl rfl (pc' := 166) rfl ?_
              refine s_iconst H at_166 (z := (3 : Int32)) (by decide) (pc' := 167) rfl ?_
              refine s_baload H at_167 (i := 0) rfl (x := ((7 : Nat).toInt32.toInt8.toInt32)) (by decide) (jn := 3) (by decide) rfl (pc' := 168) rfl ?_
              refine s_sipush H at_168 (z := (255 : Int32)) (by decide) (pc' := 171) rfl ?_
              refine s_iand H at_171 (pc' := 172) rfl ?_
              refine s_ior H at_172 (pc' := 173) rfl ?_
              refine s_iload H at_173 rfl (pc' := 175) rfl ?_
              refine s_icmp H at_175 (py := 180) (pc' := 178) q_eq (by decide) rfl (fun c175 => ?_) (fun c175 => ?_)
              · refine s_iload H at_180 rfl (pc' := 182) rfl ?_
                refine s_if H at_182 (py := 187) (pc' := 185) z_ne (by decide) rfl (fun c182 => ?_) (fun c182 => ?_)
                · refine s_aload H at_187 rfl rfl (pc' := 189) rfl ?_
                  refine s_iconst H at_189 (z := (4 : Int32)) (by decide) (pc' := 190) rfl ?_
                  refine s_baload H at_190 (i := 0) rfl (x := (i2.toInt8.toInt32)) (by decide) (jn := 4) (by decide) rfl (pc' := 191) rfl ?_
                  refine s_sipush H at_191 (z := (255 : Int32)) (by decide) (pc' := 194) rfl ?_
                  refine s_iand H at_194 (pc' := 195) rfl ?_
                  refine s_iloadn H at_195 rfl (pc' := 196) rfl ?_
                  refine s_sipush H at_196 (z := (255 : Int32)) (by decide) (pc' := 199) rfl ?_
                  refine s_iand H at_199 (pc' := 200) rfl ?_
                  refine s_icmp H at_200 (py := 205) (pc' := 203) q_eq (by decide) rfl (fun c200 => ?_) (fun c200 => ?_)
                  · refine s_iload H at_205 rfl (pc' := 207) rfl ?_
                    refine s_iconst H at_207 (z := (3 : Int32)) (by decide) (pc' := 208) rfl ?_
                    refine s_icmp H at_208 (py := 218) (pc' := 211) q_le (by decide) rfl (fun c208 => ?_) (fun c208 => ?_)
                    · refine s_iload H at_218 rfl (pc' := 220) rfl ?_
                      refine s_iconst H at_220 (z := (1 : Int32)) (by decide) (pc' := 221) rfl ?_
                      refine s_icmp H at_221 (py := 235) (pc' := 224) q_lt (by decide) rfl (fun c221 => ?_) (fun c221 => ?_)
                      · exact absurd c221 (by decide)
                      · refine s_aload H at_224 rfl rfl (pc' := 226) rfl ?_
                        refine s_iconst H at_226 (z := (5 : Int32)) (by decide) (pc' := 227) rfl ?_
                        refine s_baload H at_227 (i := 0) rfl (x := d0) (by decide) (jn := 5) (by decide) rfl (pc' := 228) rfl ?_
                        refine s_iload H at_228 rfl (pc' := 230) rfl ?_
                        refine s_icmp H at_230 (py := 235) (pc' := 233) q_eq (by decide) rfl (fun c230 => ?_) (fun c230 => ?_)
                        · refine s_iload H at_235 rfl (pc' := 237) rfl ?_
                          refine s_iconst H at_237 (z := (2 : Int32)) (by decide) (pc' := 238) rfl ?_
                          refine s_icmp H at_238 (py := 253) (pc' := 241) q_lt (by decide) rfl (fun c238 => ?_) (fun c238 => ?_)
                          · exact absurd c238 (by decide)
                          · refine s_aload H at_241 rfl rfl (pc' := 243) rfl ?_
                            refine s_bipush H at_243 (z := (6 : Int32)) (by decide) (pc' := 245) rfl ?_
                            refine s_baload H at_245 (i := 0) rfl (x := d1) (by decide) (jn := 6) (by decide) rfl (pc' := 246) rfl ?_
                            refine s_iload H at_246 rfl (pc' := 248) rfl ?_
                            refine s_icmp H at_248 (py := 253) (pc' := 251) q_eq (by decide) rfl (fun c248 => ?_) (fun c248 => ?_)
                            · refine s_iload H at_253 rfl (pc' := 255) rfl ?_
                              refine s_iconst H at_255 (z := (3 : Int32)) (by decide) (pc' := 256) rfl ?_
                              refine s_icmp H at_256 (py := 271) (pc' := 259) q_lt (by decide) rfl (fun c256 => ?_) (fun c256 => ?_)
                              · refine s_iload H at_271 rfl (pc' := 273) rfl ?_
                                refine s_iconst H at_273 (z := (4 : Int32)) (by decide) (pc' := 274) rfl ?_
                                refine s_icmp H at_274 (py := 289) (pc' := 277) q_lt (by decide) rfl (fun c274 => ?_) (fun c274 => ?_)
                                · refine s_iconst H at_289 (z := (1 : Int32)) (by decide) (pc' := 290) rfl ?_
                                  exact s_iret H at_290 rfl (by simp) (by decide) (by decide) (rfl)
                                · exact absurd c274 (by decide)
                              · exact absurd c256 (by decide)
                            · exact absurd rfl c248
                        · exact absurd rfl c230
                    · exact absurd c208 (by decide)
                  · exact absurd (own_b255 i2) c200
                · exact absurd c182 (by decide)
              · exact absurd (own_len16 ⟨7, by decide⟩) c175
            · exact absurd (own_b255 i1) c148
          · exact absurd (by decide) c130
        · exact absurd c115 (by decide)
set_option maxRecDepth 65536 in
set_option maxHeartbeats 40000000 in
theorem s36_2_x {Z : State} {k : Cx} {i0 i1 i2 i3 d0 d1 d2 cc : Int32} {i4 : Int64} (H : Ok Z k room_1 (LQ) x code maxLocals ret) (h0 : nar .byte d0 = d0) (h1 : nar .byte d1 = d1) (h2 : nar .byte d2 = d2) (hc : ¬ (cc = 1 ∨ cc = 2)) (hc0 : 0 ≤ cc.toInt) (hc7 : cc.toInt ≤ 7) : Go Z k 0 0 ([] : Hp) 36 #[.val (.int i0), .val (.int i1), .val (.int i2), .val (.int i3), .val (.long i4), .second, .val (.int cc), .val (.int (2 : Int32)), .val (.int d0), .val (.int d1), .val (.int d2), .unset, .unset, .unset, .unset, .unset, .unset] [] := by
  refine s_iload H at_36 rfl (pc' := 38) rfl ?_
  refine s_iload H at_38 rfl (pc' := 40) rfl ?_
  refine s_iload H at_40 rfl (pc' := 42) rfl ?_
  refine s_iload H at_42 rfl (pc' := 44) rfl ?_
  refine s_static H (met_md2 H.tb d0 d1 d2 h0 h1 h2) at_44 (mem (i := 0) rfl) (mem (i := 1) rfl) (mem (i := 2) rfl) (mem (i := 3) rfl) (by decide) pd_1 rfl (rest := []) rfl rfl (by decide) (Nat.le_of_ble_eq_true rfl) (cn' := 1) (sn' := 2) rfl rfl (by decide) (by decide) (pc' := 47) rfl (fun _ _ hq => ?_)
  obtain ⟨da, rfl, rfl⟩ := hq
  show Go Z k 1 2 ((da, ArI Z .byte ([d0, d1] : List Int32)) :: []) 47 #[.val (.int i0), .val (.int i1), .val (.int i2), .val (.int i3), .val (.long i4), .second, .val (.int cc), .val (.int (2 : Int32)), .val (.int d0), .val (.int d1), .val (.int d2), .unset, .unset, .unset, .unset, .unset, .unset] [(.ref da)]
  refine s_astore H at_47 (L' := #[.val (.int i0), .val (.int i1), .val (.int i2), .val (.int i3), .val (.long i4), .second, .val (.int cc), .val (.int (2 : Int32)), .val (.int d0), .val (.int d1), .val (.int d2), .val (.ref da), .unset, .unset, .unset, .unset, .unset]) rfl rfl (pc' := 49) rfl ?_
  refine s_aload H at_49 rfl rfl (pc' := 51) rfl ?_
  refine s_alenI H at_51 (i := 0) rfl (z := (2 : Int32)) rfl (pc' := 52) rfl ?_
  refine s_istore H at_52 (L' := fun z => #[.val (.int i0), .val (.int i1), .val (.int i2), .val (.int i3), .val (.long i4), .second, .val (.int cc), .val (.int (2 : Int32)), .val (.int d0), .val (.int d1), .val (.int d2), .val (.ref da), .val (.int z), .unset, .unset, .unset, .unset]) (fun _ => rfl) (pc' := 54) rfl (fun z0 hz => ?_)
  subst z0
  refine s_new H (C := "com/example/quintet/quintet/EapPacket") [("com/example/quintet/quintet/EapPacket", "code", "I", (.int (0 : Int32))), ("com/example/quintet/quintet/EapPacket", "identifier", "I", (.int (0 : Int32))), ("com/example/quintet/quintet/EapPacket", "type", "I", (.int (0 : Int32))), ("com/example/quintet/quintet/EapPacket", "data", "[B", .null)] at_54 (mem (i := 5) rfl) (mem (i := 6) rfl) (mem (i := 7) rfl) (allC ⟨Or.inr (mem (i := 20) rfl), .int, by decide, rfl⟩ (allC ⟨Or.inr (mem (i := 22) rfl), .int, by decide, rfl⟩ (allC ⟨Or.inr (mem (i := 24) rfl), .int, by decide, rfl⟩ (allC ⟨Or.inr (mem (i := 26) rfl), (.array .byte), by decide, rfl⟩ allN)))) (by decide) (cn' := 2) (sn' := 6) rfl rfl (by decide) (by decide) (pc' := 57) rfl (fun a1 => ?_)
  refine s_dup H at_57 rfl (pc' := 58) rfl ?_
  refine s_iload H at_58 rfl (pc' := 60) rfl ?_
  refine s_iloadn H at_60 rfl (pc' := 61) rfl ?_
  refine s_iloadn H at_61 rfl (pc' := 62) rfl ?_
  refine s_aload H at_62 rfl rfl (pc' := 64) rfl ?_
  refine s_init H (met_ei H.tb a1 da cc i1 i2) at_64 rfl (mem (i := 8) rfl) (mem (i := 9) rfl) (mem (i := 7) rfl) (mem (i := 10) rfl) (by decide) pd_2 rfl (rest := [(.ref a1)]) rfl rfl (by decide) (Nat.le_of_ble_eq_true rfl) (cn' := 2) (sn' := 6) rfl rfl (by decide) (by decide) (pc' := 67) rfl (fun _ _ hq => ?_)
  obtain ⟨rfl, rfl⟩ := hq
  show Go Z k 2 6 ((a1, Obj Z "com/example/quintet/quintet/EapPacket" [("com/example/quintet/quintet/EapPacket", "code", "I", (.int cc)), ("com/example/quintet/quintet/EapPacket", "identifier", "I", (.int i1)), ("com/example/quintet/quintet/EapPacket", "type", "I", (.int i2)), ("com/example/quintet/quintet/EapPacket", "data", "[B", (.ref da))]) :: (da, ArI Z .byte ([d0, d1] : List Int32)) :: []) 67 #[.val (.int i0), .val (.int i1), .val (.int i2), .val (.int i3), .val (.long i4), .second, .val (.int cc), .val (.int (2 : Int32)), .val (.int d0), .val (.int d1), .val (.int d2), .val (.ref da), .val (.int (2 : Int32)), .unset, .unset, .unset, .unset] [(.ref a1)]
  refine s_astore H at_67 (L' := #[.val (.int i0), .val (.int i1), .val (.int i2), .val (.int i3), .val (.long i4), .second, .val (.int cc), .val (.int (2 : Int32)), .val (.int d0), .val (.int d1), .val (.int d2), .val (.ref da), .val (.int (2 : Int32)), .val (.ref a1), .unset, .unset, .unset]) rfl rfl (pc' := 69) rfl ?_
  refine s_aload H at_69 rfl rfl (pc' := 71) rfl ?_
  refine s_virtual H (met_byf H.tb a1 da cc i1 i2 ([d0, d1] : List Int32) hc) at_71 (i := 0) rfl (mem (i := 27) rfl) (mem (i := 28) rfl) (mem (i := 30) rfl) (mem (i := 29) rfl) (mem (i := 7) rfl) (mem (i := 31) rfl) (by decide) pd_5 rfl (rest := []) rfl rfl (by decide) (Nat.le_of_ble_eq_true rfl) (cn' := 3) (sn' := 10) rfl rfl (by decide) (by decide) (pc' := 74) rfl (fun _ _ hq => ?_)
  obtain ⟨ou, rfl, rfl⟩ := hq
  show Go Z k 3 10 ((ou, ArI Z .byte ([(cc.toInt8.toInt32), (i1.toInt8.toInt32), ((((4 : Int32).toUInt32 >>> ((8 : Int32) &&& 31).toUInt32).toInt32).toInt8.toInt32), ((4 : Int32).toInt8.toInt32)] : List Int32)) :: (a1, Obj Z "com/example/quintet/quintet/EapPacket" [("com/example/quintet/quintet/EapPacket", "code", "I", (.int cc)), ("com/example/quintet/quintet/EapPacket", "identifier", "I", (.int i1)), ("com/example/quintet/quintet/EapPacket", "type", "I", (.int i2)), ("com/example/quintet/quintet/EapPacket", "data", "[B", (.ref da))]) :: (da, ArI Z .byte ([d0, d1] : List Int32)) :: []) 74 #[.val (.int i0), .val (.int i1), .val (.int i2), .val (.int i3), .val (.long i4), .second, .val (.int cc), .val (.int (2 : Int32)), .val (.int d0), .val (.int d1), .val (.int d2), .val (.ref da), .val (.int (2 : Int32)), .val (.ref a1), .unset, .unset, .unset] [(.ref ou)]
  refine s_astore H at_74 (L' := #[.val (.int i0), .val (.int i1), .val (.int i2), .val (.int i3), .val (.long i4), .second, .val (.int cc), .val (.int (2 : Int32)), .val (.int d0), .val (.int d1), .val (.int d2), .val (.ref da), .val (.int (2 : Int32)), .val (.ref a1), .val (.ref ou), .unset, .unset]) rfl rfl (pc' := 76) rfl ?_
  refine s_iload H at_76 rfl (pc' := 78) rfl ?_
  refine s_iconst H at_78 (z := (1 : Int32)) (by decide) (pc' := 79) rfl ?_
  refine s_icmp H at_79 (py := 88) (pc' := 82) q_eq (by decide) rfl (fun c79 => ?_) (fun c79 => ?_)
  · exact absurd (Or.inl c79) hc
  · refine s_iload H at_82 rfl (pc' := 84) rfl ?_
    refine s_iconst H at_84 (z := (2 : Int32)) (by decide) (pc' := 85) rfl ?_
    refine s_icmp H at_85 (py := 92) (pc' := 88) q_ne (by decide) rfl (fun c85 => ?_) (fun c85 => ?_)
    · refine s_iconst H at_92 (z := (0 : Int32)) (by decide) (pc' := 93) rfl ?_
      refine s_istore H at_93 (L' := fun z => #[.val (.int i0), .val (.int i1), .val (.int i2), .val (.int i3), .val (.long i4), .second, .val (.int cc), .val (.int (2 : Int32)), .val (.int d0), .val (.int d1), .val (.int d2), .val (.ref da), .val (.int (2 : Int32)), .val (.ref a1), .val (.ref ou), .val (.int z), .unset]) (fun _ => rfl) (pc' := 95) rfl (fun z0 hz => ?_)
      subst z0
      refine s_iload H at_95 rfl (pc' := 97) rfl ?_
      refine s_if H at_97 (py := 107) (pc' := 100) z_eq (by decide) rfl (fun c97 => ?_) (fun c97 => ?_)
      · refine s_iconst H at_107 (z := (4 : Int32)) (by decide) (pc' := 108) rfl ?_
        refine s_istore H at_108 (L' := fun z => #[.val (.int i0), .val (.int i1), .val (.int i2), .val (.int i3), .val (.long i4), .second, .val (.int cc), .val (.int (2 : Int32)), .val (.int d0), .val (.int d1), .val (.int d2), .val (.ref da), .val (.int (2 : Int32)), .val (.ref a1), .val (.ref ou), .val (.int (0 : Int32)), .val (.int z)]) (fun _ => rfl) (pc' := 110) rfl (fun z0 hz => ?_)
        subst z0
        refine s_aload H at_110 rfl rfl (pc' := 112) rfl ?_
        refine s_alenI H at_112 (i := 0) rfl (z := (4 : Int32)) rfl (pc' := 113) rfl ?_
        refine s_iload H at_113 rfl (pc' := 115) rfl ?_
        refine s_icmp H at_115 (py := 120) (pc' := 118) q_eq (by decide) rfl (fun c115 => ?_) (fun c115 => ?_)
        · refine s_aload H at_120 rfl rfl (pc' := 122) rfl ?_
          refine s_iconst H at_122 (z := (0 : Int32)) (by decide) (pc' := 123) rfl ?_
          refine s_baload H at_123 (i := 0) rfl (x := (cc.toInt8.toInt32)) (by decide) (jn := 0) (by decide) rfl (pc' := 124) rfl ?_
          refine s_sipush H at_124 (z := (255 : Int32)) (by decide) (pc' := 127) rfl ?_
          refine s_iand H at_127 (pc' := 128) rfl ?_
          refine s_iload H at_128 rfl (pc' := 130) rfl ?_
          refine s_icmp H at_130 (py := 135) (pc' := 133) q_eq (by decide) rfl (fun c130 => ?_) (fun c130 => ?_)
          · refine s_aload H at_135 rfl rfl (pc' := 137) rfl ?_
            refine s_iconst H at_137 (z := (1 : Int32)) (by decide) (pc' := 138) rfl ?_
            refine s_baload H at_138 (i := 0) rfl (x := (i1.toInt8.toInt32)) (by decide) (jn := 1) (by decide) rfl (pc' := 139) rfl ?_
            refine s_sipush H at_139 (z := (255 : Int32)) (by decide) (pc' := 142) rfl ?_
            refine s_iand H at_142 (pc' := 143) rfl ?_
            refine s_iloadn H at_143 rfl (pc' := 144) rfl ?_
            refine s_sipush H at_144 (z := (255 : Int32)) (by decide) (pc' := 147) rfl ?_
            refine s_iand H at_147 (pc' := 148) rfl ?_
            refine s_icmp H at_148 (py := 153) (pc' := 151) q_eq (by decide) rfl (fun c148 => ?_) (fun c148 => ?_)
            · refine s_aload H at_153 rfl rfl (pc' := 155) rfl ?_
              refine s_iconst H at_155 (z := (2 : Int32)) (by decide) (pc' := 156) rfl ?_
              refine s_baload H at_156 (i := 0) rfl (x := ((((4 : Int32).toUInt32 >>> ((8 : Int32) &&& 31).toUInt32).toInt32).toInt8.toInt32)) (by decide) (jn := 2) (by decide) rfl (pc' := 157) rfl ?_
              refine s_sipush H at_157 (z := (255 : Int32)) (by decide) (pc' := 160) rfl ?_
              refine s_iand H at_160 (pc' := 161) rfl ?_
              refine s_bipush H at_161 (z := (8 : Int32)) (by decide) (pc' := 163) rfl ?_
              refine s_ishl H at_163 (pc' := 164) rfl ?_
              refine s_aload H at_164 rfl rfl (pc' := 166) rfl ?_
              refine s_iconst H at_166 (z := (3 : Int32)) (by decide) (pc' := 167) rfl ?_
              refine s_baload H at_167 (i := 0) rfl (x := ((4 : Int32).toInt8.toInt32)) (by decide) (jn := 3) (by decide) rfl (pc' := 168) rfl ?_
              refine s_sipush H at_168 (z := (255 : Int32)) (by decide) (pc' := 171) rfl ?_
              refine s_iand H at_171 (pc' := 172) rfl ?_
              refine s_ior H at_172 (pc' := 173) rfl ?_
              refine s_iload H at_173 rfl (pc' := 175) rfl ?_
              refine s_icmp H at_175 (py := 180) (pc' := 178) q_eq (by decide) rfl (fun c175 => ?_) (fun c175 => ?_)
              · refine s_iload H at_180 rfl (pc' := 182) rfl ?_
                refine s_if H at_182 (py := 187) (pc' := 185) z_ne (by decide) rfl (fun c182 => ?_) (fun c182 => ?_)
                · exact absurd c182 (by decide)
                · refine s_iconst H at_185 (z := (1 : Int32)) (by decide) (pc' := 186) rfl ?_
                  exact s_iret H at_186 rfl (by simp) (by decide) (by decide) (rfl)
              · exact absurd (by decide) c175
            · exact absurd (own_b255 i1) c148
          · exact absurd (own_code hc0 hc7) c130
        · exact absurd c115 (by decide)
      · exact absurd c97 (by decide)
    · exact absurd (Or.inr (Classical.not_not.mp c85)) hc
set_option maxRecDepth 65536 in
set_option maxHeartbeats 40000000 in
theorem s36_3_1 {Z : State} {k : Cx} {i0 i1 i2 i3 d0 d1 d2 : Int32} {i4 : Int64} (H : Ok Z k room_1 (LQ) x code maxLocals ret) (h0 : nar .byte d0 = d0) (h1 : nar .byte d1 = d1) (h2 : nar .byte d2 = d2) : Go Z k 0 0 ([] : Hp) 36 #[.val (.int i0), .val (.int i1), .val (.int i2), .val (.int i3), .val (.long i4), .second, .val (.int (1 : Int32)), .val (.int (3 : Int32)), .val (.int d0), .val (.int d1), .val (.int d2), .unset, .unset, .unset, .unset, .unset, .unset] [] := by
  refine s_iload H at_36 rfl (pc' := 38) rfl ?_
  refine s_iload H at_38 rfl (pc' := 40) rfl ?_
  refine s_iload H at_40 rfl (pc' := 42) rfl ?_
  refine s_iload H at_42 rfl (pc' := 44) rfl ?_
  refine s_static H (met_md3 H.tb d0 d1 d2 h0 h1 h2) at_44 (mem (i := 0) rfl) (mem (i := 1) rfl) (mem (i := 2) rfl) (mem (i := 3) rfl) (by decide) pd_1 rfl (rest := []) rfl rfl (by decide) (Nat.le_of_ble_eq_true rfl) (cn' := 1) (sn' := 3) rfl rfl (by decide) (by decide) (pc' := 47) rfl (fun _ _ hq => ?_)
  obtain ⟨da, rfl, rfl⟩ := hq
  show Go Z k 1 3 ((da, ArI Z .byte ([d0, d1, d2] : List Int32)) :: []) 47 #[.val (.int i0), .val (.int i1), .val (.int i2), .val (.int i3), .val (.long i4), .second, .val (.int (1 : Int32)), .val (.int (3 : Int32)), .val (.int d0), .val (.int d1), .val (.int d2), .unset, .unset, .unset, .unset, .unset, .unset] [(.ref da)]
  refine s_astore H at_47 (L' := #[.val (.int i0), .val (.int i1), .val (.int i2), .val (.int i3), .val (.long i4), .second, .val (.int (1 : Int32)), .val (.int (3 : Int32)), .val (.int d0), .val (.int d1), .val (.int d2), .val (.ref da), .unset, .unset, .unset, .unset, .unset]) rfl rfl (pc' := 49) rfl ?_
  refine s_aload H at_49 rfl rfl (pc' := 51) rfl ?_
  refine s_alenI H at_51 (i := 0) rfl (z := (3 : Int32)) rfl (pc' := 52) rfl ?_
  refine s_istore H at_52 (L' := fun z => #[.val (.int i0), .val (.int i1), .val (.int i2), .val (.int i3), .val (.long i4), .second, .val (.int (1 : Int32)), .val (.int (3 : Int32)), .val (.int d0), .val (.int d1), .val (.int d2), .val (.ref da), .val (.int z), .unset, .unset, .unset, .unset]) (fun _ => rfl) (pc' := 54) rfl (fun z0 hz => ?_)
  subst z0
  refine s_new H (C := "com/example/quintet/quintet/EapPacket") [("com/example/quintet/quintet/EapPacket", "code", "I", (.int (0 : Int32))), ("com/example/quintet/quintet/EapPacket", "identifier", "I", (.int (0 : Int32))), ("com/example/quintet/quintet/EapPacket", "type", "I", (.int (0 : Int32))), ("com/example/quintet/quintet/EapPacket", "data", "[B", .null)] at_54 (mem (i := 5) rfl) (mem (i := 6) rfl) (mem (i := 7) rfl) (allC ⟨Or.inr (mem (i := 20) rfl), .int, by decide, rfl⟩ (allC ⟨Or.inr (mem (i := 22) rfl), .int, by decide, rfl⟩ (allC ⟨Or.inr (mem (i := 24) rfl), .int, by decide, rfl⟩ (allC ⟨Or.inr (mem (i := 26) rfl), (.array .byte), by decide, rfl⟩ allN)))) (by decide) (cn' := 2) (sn' := 7) rfl rfl (by decide) (by decide) (pc' := 57) rfl (fun a1 => ?_)
  refine s_dup H at_57 rfl (pc' := 58) rfl ?_
  refine s_iload H at_58 rfl (pc' := 60) rfl ?_
  refine s_iloadn H at_60 rfl (pc' := 61) rfl ?_
  refine s_iloadn H at_61 rfl (pc' := 62) rfl ?_
  refine s_aload H at_62 rfl rfl (pc' := 64) rfl ?_
  refine s_init H (met_ei H.tb a1 da (1 : Int32) i1 i2) at_64 rfl (mem (i := 8) rfl) (mem (i := 9) rfl) (mem (i := 7) rfl) (mem (i := 10) rfl) (by decide) pd_2 rfl (rest := [(.ref a1)]) rfl rfl (by decide) (Nat.le_of_ble_eq_true rfl) (cn' := 2) (sn' := 7) rfl rfl (by decide) (by decide) (pc' := 67) rfl (fun _ _ hq => ?_)
  obtain ⟨rfl, rfl⟩ := hq
  show Go Z k 2 7 ((a1, Obj Z "com/example/quintet/quintet/EapPacket" [("com/example/quintet/quintet/EapPacket", "code", "I", (.int (1 : Int32))), ("com/example/quintet/quintet/EapPacket", "identifier", "I", (.int i1)), ("com/example/quintet/quintet/EapPacket", "type", "I", (.int i2)), ("com/example/quintet/quintet/EapPacket", "data", "[B", (.ref da))]) :: (da, ArI Z .byte ([d0, d1, d2] : List Int32)) :: []) 67 #[.val (.int i0), .val (.int i1), .val (.int i2), .val (.int i3), .val (.long i4), .second, .val (.int (1 : Int32)), .val (.int (3 : Int32)), .val (.int d0), .val (.int d1), .val (.int d2), .val (.ref da), .val (.int (3 : Int32)), .unset, .unset, .unset, .unset] [(.ref a1)]
  refine s_astore H at_67 (L' := #[.val (.int i0), .val (.int i1), .val (.int i2), .val (.int i3), .val (.long i4), .second, .val (.int (1 : Int32)), .val (.int (3 : Int32)), .val (.int d0), .val (.int d1), .val (.int d2), .val (.ref da), .val (.int (3 : Int32)), .val (.ref a1), .unset, .unset, .unset]) rfl rfl (pc' := 69) rfl ?_
  refine s_aload H at_69 rfl rfl (pc' := 71) rfl ?_
  refine s_virtual H (met_byt H.tb a1 da (1 : Int32) i1 i2 ([d0, d1, d2] : List Int32) (by decide) (Nat.le_of_ble_eq_true rfl)) at_71 (i := 0) rfl (mem (i := 27) rfl) (mem (i := 28) rfl) (mem (i := 30) rfl) (mem (i := 29) rfl) (mem (i := 7) rfl) (mem (i := 31) rfl) (by decide) pd_5 rfl (rest := []) rfl rfl (by decide) (Nat.le_of_ble_eq_true rfl) (cn' := 3) (sn' := 312) rfl rfl (by decide) (by decide) (pc' := 74) rfl (fun _ _ hq => ?_)
  obtain ⟨ou, rfl, rfl⟩ := hq
  show Go Z k 3 312 ((ou, ArI Z .byte ([((1 : Int32).toInt8.toInt32), (i1.toInt8.toInt32), ((((8 : Nat).toInt32.toUInt32 >>> ((8 : Int32) &&& 31).toUInt32).toInt32).toInt8.toInt32), ((8 : Nat).toInt32.toInt8.toInt32), (i2.toInt8.toInt32), d0, d1, d2] : List Int32)) :: (a1, Obj Z "com/example/quintet/quintet/EapPacket" [("com/example/quintet/quintet/EapPacket", "code", "I", (.int (1 : Int32))), ("com/example/quintet/quintet/EapPacket", "identifier", "I", (.int i1)), ("com/example/quintet/quintet/EapPacket", "type", "I", (.int i2)), ("com/example/quintet/quintet/EapPacket", "data", "[B", (.ref da))]) :: (da, ArI Z .byte ([d0, d1, d2] : List Int32)) :: []) 74 #[.val (.int i0), .val (.int i1), .val (.int i2), .val (.int i3), .val (.long i4), .second, .val (.int (1 : Int32)), .val (.int (3 : Int32)), .val (.int d0), .val (.int d1), .val (.int d2), .val (.ref da), .val (.int (3 : Int32)), .val (.ref a1), .unset, .unset, .unset] [(.ref ou)]
  refine s_astore H at_74 (L' := #[.val (.int i0), .val (.int i1), .val (.int i2), .val (.int i3), .val (.long i4), .second, .val (.int (1 : Int32)), .val (.int (3 : Int32)), .val (.int d0), .val (.int d1), .val (.int d2), .val (.ref da), .val (.int (3 : Int32)), .val (.ref a1), .val (.ref ou), .unset, .unset]) rfl rfl (pc' := 76) rfl ?_
  refine s_iload H at_76 rfl (pc' := 78) rfl ?_
  refine s_iconst H at_78 (z := (1 : Int32)) (by decide) (pc' := 79) rfl ?_
  refine s_icmp H at_79 (py := 88) (pc' := 82) q_eq (by decide) rfl (fun c79 => ?_) (fun c79 => ?_)
  · refine s_iconst H at_88 (z := (1 : Int32)) (by decide) (pc' := 89) rfl ?_
    refine s_goto H at_89 (pc' := 93) (by decide) ?_
    refine s_istore H at_93 (L' := fun z => #[.val (.int i0), .val (.int i1), .val (.int i2), .val (.int i3), .val (.long i4), .second, .val (.int (1 : Int32)), .val (.int (3 : Int32)), .val (.int d0), .val (.int d1), .val (.int d2), .val (.ref da), .val (.int (3 : Int32)), .val (.ref a1), .val (.ref ou), .val (.int z), .unset]) (fun _ => rfl) (pc' := 95) rfl (fun z0 hz => ?_)
    subst z0
    refine s_iload H at_95 rfl (pc' := 97) rfl ?_
    refine s_if H at_97 (py := 107) (pc' := 100) z_eq (by decide) rfl (fun c97 => ?_) (fun c97 => ?_)
    · exact absurd c97 (by decide)
    · refine s_iconst H at_100 (z := (5 : Int32)) (by decide) (pc' := 101) rfl ?_
      refine s_iload H at_101 rfl (pc' := 103) rfl ?_
      refine s_iadd H at_103 (pc' := 104) rfl ?_
      refine s_goto H at_104 (pc' := 108) (by decide) ?_
      refine s_istore H at_108 (L' := fun z => #[.val (.int i0), .val (.int i1), .val (.int i2), .val (.int i3), .val (.long i4), .second, .val (.int (1 : Int32)), .val (.int (3 : Int32)), .val (.int d0), .val (.int d1), .val (.int d2), .val (.ref da), .val (.int (3 : Int32)), .val (.ref a1), .val (.ref ou), .val (.int (1 : Int32)), .val (.int z)]) (fun _ => rfl) (pc' := 110) rfl (fun z0 hz => ?_)
      subst z0
      refine s_aload H at_110 rfl rfl (pc' := 112) rfl ?_
      refine s_alenI H at_112 (i := 0) rfl (z := (8 : Int32)) rfl (pc' := 113) rfl ?_
      refine s_iload H at_113 rfl (pc' := 115) rfl ?_
      refine s_icmp H at_115 (py := 120) (pc' := 118) q_eq (by decide) rfl (fun c115 => ?_) (fun c115 => ?_)
      · refine s_aload H at_120 rfl rfl (pc' := 122) rfl ?_
        refine s_iconst H at_122 (z := (0 : Int32)) (by decide) (pc' := 123) rfl ?_
        refine s_baload H at_123 (i := 0) rfl (x := ((1 : Int32).toInt8.toInt32)) (by decide) (jn := 0) (by decide) rfl (pc' := 124) rfl ?_
        refine s_sipush H at_124 (z := (255 : Int32)) (by decide) (pc' := 127) rfl ?_
        refine s_iand H at_127 (pc' := 128) rfl ?_
        refine s_iload H at_128 rfl (pc' := 130) rfl ?_
        refine s_icmp H at_130 (py := 135) (pc' := 133) q_eq (by decide) rfl (fun c130 => ?_) (fun c130 => ?_)
        · refine s_aload H at_135 rfl rfl (pc' := 137) rfl ?_
          refine s_iconst H at_137 (z := (1 : Int32)) (by decide) (pc' := 138) rfl ?_
          refine s_baload H at_138 (i := 0) rfl (x := (i1.toInt8.toInt32)) (by decide) (jn := 1) (by decide) rfl (pc' := 139) rfl ?_
          refine s_sipush H at_139 (z := (255 : Int32)) (by decide) (pc' := 142) rfl ?_
          refine s_iand H at_142 (pc' := 143) rfl ?_
          refine s_iloadn H at_143 rfl (pc' := 144) rfl ?_
          refine s_sipush H at_144 (z := (255 : Int32)) (by decide) (pc' := 147) rfl ?_
          refine s_iand H at_147 (pc' := 148) rfl ?_
          refine s_icmp H at_148 (py := 153) (pc' := 151) q_eq (by decide) rfl (fun c148 => ?_) (fun c148 => ?_)
          · refine s_aload H at_153 rfl rfl (pc' := 155) rfl ?_
            refine s_iconst H at_155 (z := (2 : Int32)) (by decide) (pc' := 156) rfl ?_
            refine s_baload H at_156 (i := 0) rfl (x := ((((8 : Nat).toInt32.toUInt32 >>> ((8 : Int32) &&& 31).toUInt32).toInt32).toInt8.toInt32)) (by decide) (jn := 2) (by decide) rfl (pc' := 157) rfl ?_
            refine s_sipush H at_157 (z := (255 : Int32)) (by decide) (pc' := 160) rfl ?_
            refine s_iand H at_160 (pc' := 161) rfl ?_
            refine s_bipush H at_161 (z := (8 : Int32)) (by decide) (pc' := 163) rfl ?_
            refine s_ishl H at_163 (pc' := 164) rfl ?_
            refine s_aload H at_164 rfl rfl (pc' := 166) rfl ?_
            refine s_iconst H at_166 (z := (3 : Int32)) (by decide) (pc' := 167) rfl ?_
            refine s_baload H at_167 (i := 0) rfl (x := ((8 : Nat).toInt32.toInt8.toInt32)) (by decide) (jn := 3) (by decide) rfl (pc' := 168) rfl ?_
            refine s_sipush H at_168 (z := (255 : Int32)) (by decide) (pc' := 171) rfl ?_
            refine s_iand H at_171 (pc' := 172) rfl ?_
            refine s_ior H at_172 (pc' := 173) rfl ?_
            refine s_iload H at_173 rfl (pc' := 175) rfl ?_
            refine s_icmp H at_175 (py := 180) (pc' := 178) q_eq (by decide) rfl (fun c175 => ?_) (fun c175 => ?_)
            · refine s_iload H at_180 rfl (pc' := 182) rfl ?_
              refine s_if H at_182 (py := 187) (pc' := 185) z_ne (by decide) rfl (fun c182 => ?_) (fun c182 => ?_)
              · refine s_aload H at_187 rfl rfl (pc' := 189) rfl ?_
                refine s_iconst H at_189 (z := (4 : Int32)) (by decide) (pc' := 190) rfl ?_
                refine s_baload H at_190 (i := 0) rfl (x := (i2.toInt8.toInt32)) (by decide) (jn := 4) (by decide) rfl (pc' := 191) rfl ?_
                refine s_sipush H at_191 (z := (255 : Int32)) (by decide) (pc' := 194) rfl ?_
                refine s_iand H at_194 (pc' := 195) rfl ?_
                refine s_iloadn H at_195 rfl (pc' := 196) rfl ?_
                refine s_sipush H at_196 (z := (255 : Int32)) (by decide) (pc' := 199) rfl ?_
                refine s_iand H at_199 (pc' := 200) rfl ?_
                refine s_icmp H at_200 (py := 205) (pc' := 203) q_eq (by decide) rfl (fun c200 => ?_) (fun c200 => ?_)
                · refine s_iload H at_205 rfl (pc' := 207) rfl ?_
                  refine s_iconst H at_207 (z := (3 : Int32)) (by decide) (pc' := 208) rfl ?_
                  refine s_icmp H at_208 (py := 218) (pc' := 211) q_le (by decide) rfl (fun c208 => ?_) (fun c208 => ?_)
                  · refine s_iload H at_218 rfl (pc' := 220) rfl ?_
                    refine s_iconst H at_220 (z := (1 : Int32)) (by decide) (pc' := 221) rfl ?_
                    refine s_icmp H at_221 (py := 235) (pc' := 224) q_lt (by decide) rfl (fun c221 => ?_) (fun c221 => ?_)
                    · exact absurd c221 (by decide)
                    · refine s_aload H at_224 rfl rfl (pc' := 226) rfl ?_
                      refine s_iconst H at_226 (z := (5 : Int32)) (by decide) (pc' := 227) rfl ?_
                      refine s_baload H at_227 (i := 0) rfl (x := d0) (by decide) (jn := 5) (by decide) rfl (pc' := 228) rfl ?_
                      refine s_iload H at_228 rfl (pc' := 230) rfl ?_
                      refine s_icmp H at_230 (py := 235) (pc' := 233) q_eq (by decide) rfl (fun c230 => ?_) (fun c230 => ?_)
                      · refine s_iload H at_235 rfl (pc' := 237) rfl ?_
                        refine s_iconst H at_237 (z := (2 : Int32)) (by decide) (pc' := 238) rfl ?_
                        refine s_icmp H at_238 (py := 253) (pc' := 241) q_lt (by decide) rfl (fun c238 => ?_) (fun c238 => ?_)
                        · exact absurd c238 (by decide)
                        · refine s_aload H at_241 rfl rfl (pc' := 243) rfl ?_
                          refine s_bipush H at_243 (z := (6 : Int32)) (by decide) (pc' := 245) rfl ?_
                          refine s_baload H at_245 (i := 0) rfl (x := d1) (by decide) (jn := 6) (by decide) rfl (pc' := 246) rfl ?_
                          refine s_iload H at_246 rfl (pc' := 248) rfl ?_
                          refine s_icmp H at_248 (py := 253) (pc' := 251) q_eq (by decide) rfl (fun c248 => ?_) (fun c248 => ?_)
                          · refine s_iload H at_253 rfl (pc' := 255) rfl ?_
                            refine s_iconst H at_255 (z := (3 : Int32)) (by decide) (pc' := 256) rfl ?_
                            refine s_icmp H at_256 (py := 271) (pc' := 259) q_lt (by decide) rfl (fun c256 => ?_) (fun c256 => ?_)
                            · exact absurd c256 (by decide)
                            · refine s_aload H at_259 rfl rfl (pc' := 261) rfl ?_
                              refine s_bipush H at_261 (z := (7 : Int32)) (by decide) (pc' := 263) rfl ?_
                              refine s_baload H at_263 (i := 0) rfl (x := d2) (by decide) (jn := 7) (by decide) rfl (pc' := 264) rfl ?_
                              refine s_iload H at_264 rfl (pc' := 266) rfl ?_
                              refine s_icmp H at_266 (py := 271) (pc' := 269) q_eq (by decide) rfl (fun c266 => ?_) (fun c266 => ?_)
                              · refine s_iload H at_271 rfl (pc' := 273) rfl ?_
                                refine s_iconst H at_273 (z := (4 : Int32)) (by decide) (pc' := 274) rfl ?_
                                refine s_icmp H at_274 (py := 289) (pc' := 277) q_lt (by decide) rfl (fun c274 => ?_) (fun c274 => ?_)
                                · refine s_iconst H at_289 (z := (1 : Int32)) (by decide) (pc' := 290) rfl ?_
                                  exact s_iret H at_290 rfl (by simp) (by decide) (by decide) (rfl)
                                · exact absurd c274 (by decide)
                              · exact absurd rfl c266
                          · exact absurd rfl c248
                      · exact absurd rfl c230
                  · exact absurd c208 (by decide)
                · exact absurd (own_b255 i2) c200
              · exact absurd c182 (by decide)
            · exact absurd (own_len16 ⟨8, by decide⟩) c175
          · exact absurd (own_b255 i1) c148
        · exact absurd (by decide) c130
      · exact absurd c115 (by decide)
  · exact absurd c79 (by decide)
set_option maxRecDepth 65536 in
set_option maxHeartbeats 40000000 in
theorem s36_3_2 {Z : State} {k : Cx} {i0 i1 i2 i3 d0 d1 d2 : Int32} {i4 : Int64} (H : Ok Z k room_1 (LQ) x code maxLocals ret) (h0 : nar .byte d0 = d0) (h1 : nar .byte d1 = d1) (h2 : nar .byte d2 = d2) : Go Z k 0 0 ([] : Hp) 36 #[.val (.int i0), .val (.int i1), .val (.int i2), .val (.int i3), .val (.long i4), .second, .val (.int (2 : Int32)), .val (.int (3 : Int32)), .val (.int d0), .val (.int d1), .val (.int d2), .unset, .unset, .unset, .unset, .unset, .unset] [] := by
  refine s_iload H at_36 rfl (pc' := 38) rfl ?_
  refine s_iload H at_38 rfl (pc' := 40) rfl ?_
  refine s_iload H at_40 rfl (pc' := 42) rfl ?_
  refine s_iload H at_42 rfl (pc' := 44) rfl ?_
  refine s_static H (met_md3 H.tb d0 d1 d2 h0 h1 h2) at_44 (mem (i := 0) rfl) (mem (i := 1) rfl) (mem (i := 2) rfl) (mem (i := 3) rfl) (by decide) pd_1 rfl (rest := []) rfl rfl (by decide) (Nat.le_of_ble_eq_true rfl) (cn' := 1) (sn' := 3) rfl rfl (by decide) (by decide) (pc' := 47) rfl (fun _ _ hq => ?_)
  obtain ⟨da, rfl, rfl⟩ := hq
  show Go Z k 1 3 ((da, ArI Z .byte ([d0, d1, d2] : List Int32)) :: []) 47 #[.val (.int i0), .val (.int i1), .val (.int i2), .val (.int i3), .val (.long i4), .second, .val (.int (2 : Int32)), .val (.int (3 : Int32)), .val (.int d0), .val (.int d1), .val (.int d2), .unset, .unset, .unset, .unset, .unset, .unset] [(.ref da)]
  refine s_astore H at_47 (L' := #[.val (.int i0), .val (.int i1), .val (.int i2), .val (.int i3), .val (.long i4), .second, .val (.int (2 : Int32)), .val (.int (3 : Int32)), .val (.int d0), .val (.int d1), .val (.int d2), .val (.ref da), .unset, .unset, .unset, .unset, .unset]) rfl rfl (pc' := 49) rfl ?_
  refine s_aload H at_49 rfl rfl (pc' := 51) rfl ?_
  refine s_alenI H at_51 (i := 0) rfl (z := (3 : Int32)) rfl (pc' := 52) rfl ?_
  refine s_istore H at_52 (L' := fun z => #[.val (.int i0), .val (.int i1), .val (.int i2), .val (.int i3), .val (.long i4), .second, .val (.int (2 : Int32)), .val (.int (3 : Int32)), .val (.int d0), .val (.int d1), .val (.int d2), .val (.ref da), .val (.int z), .unset, .unset, .unset, .unset]) (fun _ => rfl) (pc' := 54) rfl (fun z0 hz => ?_)
  subst z0
  refine s_new H (C := "com/example/quintet/quintet/EapPacket") [("com/example/quintet/quintet/EapPacket", "code", "I", (.int (0 : Int32))), ("com/example/quintet/quintet/EapPacket", "identifier", "I", (.int (0 : Int32))), ("com/example/quintet/quintet/EapPacket", "type", "I", (.int (0 : Int32))), ("com/example/quintet/quintet/EapPacket", "data", "[B", .null)] at_54 (mem (i := 5) rfl) (mem (i := 6) rfl) (mem (i := 7) rfl) (allC ⟨Or.inr (mem (i := 20) rfl), .int, by decide, rfl⟩ (allC ⟨Or.inr (mem (i := 22) rfl), .int, by decide, rfl⟩ (allC ⟨Or.inr (mem (i := 24) rfl), .int, by decide, rfl⟩ (allC ⟨Or.inr (mem (i := 26) rfl), (.array .byte), by decide, rfl⟩ allN)))) (by decide) (cn' := 2) (sn' := 7) rfl rfl (by decide) (by decide) (pc' := 57) rfl (fun a1 => ?_)
  refine s_dup H at_57 rfl (pc' := 58) rfl ?_
  refine s_iload H at_58 rfl (pc' := 60) rfl ?_
  refine s_iloadn H at_60 rfl (pc' := 61) rfl ?_
  refine s_iloadn H at_61 rfl (pc' := 62) rfl ?_
  refine s_aload H at_62 rfl rfl (pc' := 64) rfl ?_
  refine s_init H (met_ei H.tb a1 da (2 : Int32) i1 i2) at_64 rfl (mem (i := 8) rfl) (mem (i := 9) rfl) (mem (i := 7) rfl) (mem (i := 10) rfl) (by decide) pd_2 rfl (rest := [(.ref a1)]) rfl rfl (by decide) (Nat.le_of_ble_eq_true rfl) (cn' := 2) (sn' := 7) rfl rfl (by decide) (by decide) (pc' := 67) rfl (fun _ _ hq => ?_)
  obtain ⟨rfl, rfl⟩ := hq
  show Go Z k 2 7 ((a1, Obj Z "com/example/quintet/quintet/EapPacket" [("com/example/quintet/quintet/EapPacket", "code", "I", (.int (2 : Int32))), ("com/example/quintet/quintet/EapPacket", "identifier", "I", (.int i1)), ("com/example/quintet/quintet/EapPacket", "type", "I", (.int i2)), ("com/example/quintet/quintet/EapPacket", "data", "[B", (.ref da))]) :: (da, ArI Z .byte ([d0, d1, d2] : List Int32)) :: []) 67 #[.val (.int i0), .val (.int i1), .val (.int i2), .val (.int i3), .val (.long i4), .second, .val (.int (2 : Int32)), .val (.int (3 : Int32)), .val (.int d0), .val (.int d1), .val (.int d2), .val (.ref da), .val (.int (3 : Int32)), .unset, .unset, .unset, .unset] [(.ref a1)]
  refine s_astore H at_67 (L' := #[.val (.int i0), .val (.int i1), .val (.int i2), .val (.int i3), .val (.long i4), .second, .val (.int (2 : Int32)), .val (.int (3 : Int32)), .val (.int d0), .val (.int d1), .val (.int d2), .val (.ref da), .val (.int (3 : Int32)), .val (.ref a1), .unset, .unset, .unset]) rfl rfl (pc' := 69) rfl ?_
  refine s_aload H at_69 rfl rfl (pc' := 71) rfl ?_
  refine s_virtual H (met_byt H.tb a1 da (2 : Int32) i1 i2 ([d0, d1, d2] : List Int32) (by decide) (Nat.le_of_ble_eq_true rfl)) at_71 (i := 0) rfl (mem (i := 27) rfl) (mem (i := 28) rfl) (mem (i := 30) rfl) (mem (i := 29) rfl) (mem (i := 7) rfl) (mem (i := 31) rfl) (by decide) pd_5 rfl (rest := []) rfl rfl (by decide) (Nat.le_of_ble_eq_true rfl) (cn' := 3) (sn' := 312) rfl rfl (by decide) (by decide) (pc' := 74) rfl (fun _ _ hq => ?_)
  obtain ⟨ou, rfl, rfl⟩ := hq
  show Go Z k 3 312 ((ou, ArI Z .byte ([((2 : Int32).toInt8.toInt32), (i1.toInt8.toInt32), ((((8 : Nat).toInt32.toUInt32 >>> ((8 : Int32) &&& 31).toUInt32).toInt32).toInt8.toInt32), ((8 : Nat).toInt32.toInt8.toInt32), (i2.toInt8.toInt32), d0, d1, d2] : List Int32)) :: (a1, Obj Z "com/example/quintet/quintet/EapPacket" [("com/example/quintet/quintet/EapPacket", "code", "I", (.int (2 : Int32))), ("com/example/quintet/quintet/EapPacket", "identifier", "I", (.int i1)), ("com/example/quintet/quintet/EapPacket", "type", "I", (.int i2)), ("com/example/quintet/quintet/EapPacket", "data", "[B", (.ref da))]) :: (da, ArI Z .byte ([d0, d1, d2] : List Int32)) :: []) 74 #[.val (.int i0), .val (.int i1), .val (.int i2), .val (.int i3), .val (.long i4), .second, .val (.int (2 : Int32)), .val (.int (3 : Int32)), .val (.int d0), .val (.int d1), .val (.int d2), .val (.ref da), .val (.int (3 : Int32)), .val (.ref a1), .unset, .unset, .unset] [(.ref ou)]
  refine s_astore H at_74 (L' := #[.val (.int i0), .val (.int i1), .val (.int i2), .val (.int i3), .val (.long i4), .second, .val (.int (2 : Int32)), .val (.int (3 : Int32)), .val (.int d0), .val (.int d1), .val (.int d2), .val (.ref da), .val (.int (3 : Int32)), .val (.ref a1), .val (.ref ou), .unset, .unset]) rfl rfl (pc' := 76) rfl ?_
  refine s_iload H at_76 rfl (pc' := 78) rfl ?_
  refine s_iconst H at_78 (z := (1 : Int32)) (by decide) (pc' := 79) rfl ?_
  refine s_icmp H at_79 (py := 88) (pc' := 82) q_eq (by decide) rfl (fun c79 => ?_) (fun c79 => ?_)
  · exact absurd c79 (by decide)
  · refine s_iload H at_82 rfl (pc' := 84) rfl ?_
    refine s_iconst H at_84 (z := (2 : Int32)) (by decide) (pc' := 85) rfl ?_
    refine s_icmp H at_85 (py := 92) (pc' := 88) q_ne (by decide) rfl (fun c85 => ?_) (fun c85 => ?_)
    · exact absurd c85 (by decide)
    · refine s_iconst H at_88 (z := (1 : Int32)) (by decide) (pc' := 89) rfl ?_
      refine s_goto H at_89 (pc' := 93) (by decide) ?_
      refine s_istore H at_93 (L' := fun z => #[.val (.int i0), .val (.int i1), .val (.int i2), .val (.int i3), .val (.long i4), .second, .val (.int (2 : Int32)), .val (.int (3 : Int32)), .val (.int d0), .val (.int d1), .val (.int d2), .val (.ref da), .val (.int (3 : Int32)), .val (.ref a1), .val (.ref ou), .val (.int z), .unset]) (fun _ => rfl) (pc' := 95) rfl (fun z0 hz => ?_)
      subst z0
      refine s_iload H at_95 rfl (pc' := 97) rfl ?_
      refine s_if H at_97 (py := 107) (pc' := 100) z_eq (by decide) rfl (fun c97 => ?_) (fun c97 => ?_)
      · exact absurd c97 (by decide)
      · refine s_iconst H at_100 (z := (5 : Int32)) (by decide) (pc' := 101) rfl ?_
        refine s_iload H at_101 rfl (pc' := 103) rfl ?_
        refine s_iadd H at_103 (pc' := 104) rfl ?_
        refine s_goto H at_104 (pc' := 108) (by decide) ?_
        refine s_istore H at_108 (L' := fun z => #[.val (.int i0), .val (.int i1), .val (.int i2), .val (.int i3), .val (.long i4), .second, .val (.int (2 : Int32)), .val (.int (3 : Int32)), .val (.int d0), .val (.int d1), .val (.int d2), .val (.ref da), .val (.int (3 : Int32)), .val (.ref a1), .val (.ref ou), .val (.int (1 : Int32)), .val (.int z)]) (fun _ => rfl) (pc' := 110) rfl (fun z0 hz => ?_)
        subst z0
        refine s_aload H at_110 rfl rfl (pc' := 112) rfl ?_
        refine s_alenI H at_112 (i := 0) rfl (z := (8 : Int32)) rfl (pc' := 113) rfl ?_
        refine s_iload H at_113 rfl (pc' := 115) rfl ?_
        refine s_icmp H at_115 (py := 120) (pc' := 118) q_eq (by decide) rfl (fun c115 => ?_) (fun c115 => ?_)
        · refine s_aload H at_120 rfl rfl (pc' := 122) rfl ?_
          refine s_iconst H at_122 (z := (0 : Int32)) (by decide) (pc' := 123) rfl ?_
          refine s_baload H at_123 (i := 0) rfl (x := ((2 : Int32).toInt8.toInt32)) (by decide) (jn := 0) (by decide) rfl (pc' := 124) rfl ?_
          refine s_sipush H at_124 (z := (255 : Int32)) (by decide) (pc' := 127) rfl ?_
          refine s_iand H at_127 (pc' := 128) rfl ?_
          refine s_iload H at_128 rfl (pc' := 130) rfl ?_
          refine s_icmp H at_130 (py := 135) (pc' := 133) q_eq (by decide) rfl (fun c130 => ?_) (fun c130 => ?_)
          · refine s_aload H at_135 rfl rfl (pc' := 137) rfl ?_
            refine s_iconst H at_137 (z := (1 : Int32)) (by decide) (pc' := 138) rfl ?_
            refine s_baload H at_138 (i := 0) rfl (x := (i1.toInt8.toInt32)) (by decide) (jn := 1) (by decide) rfl (pc' := 139) rfl ?_
            refine s_sipush H at_139 (z := (255 : Int32)) (by decide) (pc' := 142) rfl ?_
            refine s_iand H at_142 (pc' := 143) rfl ?_
            refine s_iloadn H at_143 rfl (pc' := 144) rfl ?_
            refine s_sipush H at_144 (z := (255 : Int32)) (by decide) (pc' := 147) rfl ?_
            refine s_iand H at_147 (pc' := 148) rfl ?_
            refine s_icmp H at_148 (py := 153) (pc' := 151) q_eq (by decide) rfl (fun c148 => ?_) (fun c148 => ?_)
            · refine s_aload H at_153 rfl rfl (pc' := 155) rfl ?_
              refine s_iconst H at_155 (z := (2 : Int32)) (by decide) (pc' := 156) rfl ?_
              refine s_baload H at_156 (i := 0) rfl (x := ((((8 : Nat).toInt32.toUInt32 >>> ((8 : Int32) &&& 31).toUInt32).toInt32).toInt8.toInt32)) (by decide) (jn := 2) (by decide) rfl (pc' := 157) rfl ?_
              refine s_sipush H at_157 (z := (255 : Int32)) (by decide) (pc' := 160) rfl ?_
              refine s_iand H at_160 (pc' := 161) rfl ?_
              refine s_bipush H at_161 (z := (8 : Int32)) (by decide) (pc' := 163) rfl ?_
              refine s_ishl H at_163 (pc' := 164) rfl ?_
              refine s_aload H at_164 rfl rfl (pc' := 166) rfl ?_
              refine s_iconst H at_166 (z := (3 : Int32)) (by decide) (pc' := 167) rfl ?_
              refine s_baload H at_167 (i := 0) rfl (x := ((8 : Nat).toInt32.toInt8.toInt32)) (by decide) (jn := 3) (by decide) rfl (pc' := 168) rfl ?_
              refine s_sipush H at_168 (z := (255 : Int32)) (by decide) (pc' := 171) rfl ?_
              refine s_iand H at_171 (pc' := 172) rfl ?_
              refine s_ior H at_172 (pc' := 173) rfl ?_
              refine s_iload H at_173 rfl (pc' := 175) rfl ?_
              refine s_icmp H at_175 (py := 180) (pc' := 178) q_eq (by decide) rfl (fun c175 => ?_) (fun c175 => ?_)
              · refine s_iload H at_180 rfl (pc' := 182) rfl ?_
                refine s_if H at_182 (py := 187) (pc' := 185) z_ne (by decide) rfl (fun c182 => ?_) (fun c182 => ?_)
                · refine s_aload H at_187 rfl rfl (pc' := 189) rfl ?_
                  refine s_iconst H at_189 (z := (4 : Int32)) (by decide) (pc' := 190) rfl ?_
                  refine s_baload H at_190 (i := 0) rfl (x := (i2.toInt8.toInt32)) (by decide) (jn := 4) (by decide) rfl (pc' := 191) rfl ?_
                  refine s_sipush H at_191 (z := (255 : Int32)) (by decide) (pc' := 194) rfl ?_
                  refine s_iand H at_194 (pc' := 195) rfl ?_
                  refine s_iloadn H at_195 rfl (pc' := 196) rfl ?_
                  refine s_sipush H at_196 (z := (255 : Int32)) (by decide) (pc' := 199) rfl ?_
                  refine s_iand H at_199 (pc' := 200) rfl ?_
                  refine s_icmp H at_200 (py := 205) (pc' := 203) q_eq (by decide) rfl (fun c200 => ?_) (fun c200 => ?_)
                  · refine s_iload H at_205 rfl (pc' := 207) rfl ?_
                    refine s_iconst H at_207 (z := (3 : Int32)) (by decide) (pc' := 208) rfl ?_
                    refine s_icmp H at_208 (py := 218) (pc' := 211) q_le (by decide) rfl (fun c208 => ?_) (fun c208 => ?_)
                    · refine s_iload H at_218 rfl (pc' := 220) rfl ?_
                      refine s_iconst H at_220 (z := (1 : Int32)) (by decide) (pc' := 221) rfl ?_
                      refine s_icmp H at_221 (py := 235) (pc' := 224) q_lt (by decide) rfl (fun c221 => ?_) (fun c221 => ?_)
                      · exact absurd c221 (by decide)
                      · refine s_aload H at_224 rfl rfl (pc' := 226) rfl ?_
                        refine s_iconst H at_226 (z := (5 : Int32)) (by decide) (pc' := 227) rfl ?_
                        refine s_baload H at_227 (i := 0) rfl (x := d0) (by decide) (jn := 5) (by decide) rfl (pc' := 228) rfl ?_
                        refine s_iload H at_228 rfl (pc' := 230) rfl ?_
                        refine s_icmp H at_230 (py := 235) (pc' := 233) q_eq (by decide) rfl (fun c230 => ?_) (fun c230 => ?_)
                        · refine s_iload H at_235 rfl (pc' := 237) rfl ?_
                          refine s_iconst H at_237 (z := (2 : Int32)) (by decide) (pc' := 238) rfl ?_
                          refine s_icmp H at_238 (py := 253) (pc' := 241) q_lt (by decide) rfl (fun c238 => ?_) (fun c238 => ?_)
                          · exact absurd c238 (by decide)
                          · refine s_aload H at_241 rfl rfl (pc' := 243) rfl ?_
                            refine s_bipush H at_243 (z := (6 : Int32)) (by decide) (pc' := 245) rfl ?_
                            refine s_baload H at_245 (i := 0) rfl (x := d1) (by decide) (jn := 6) (by decide) rfl (pc' := 246) rfl ?_
                            refine s_iload H at_246 rfl (pc' := 248) rfl ?_
                            refine s_icmp H at_248 (py := 253) (pc' := 251) q_eq (by decide) rfl (fun c248 => ?_) (fun c248 => ?_)
                            · refine s_iload H at_253 rfl (pc' := 255) rfl ?_
                              refine s_iconst H at_255 (z := (3 : Int32)) (by decide) (pc' := 256) rfl ?_
                              refine s_icmp H at_256 (py := 271) (pc' := 259) q_lt (by decide) rfl (fun c256 => ?_) (fun c256 => ?_)
                              · exact absurd c256 (by decide)
                              · refine s_aload H at_259 rfl rfl (pc' := 261) rfl ?_
                                refine s_bipush H at_261 (z := (7 : Int32)) (by decide) (pc' := 263) rfl ?_
                                refine s_baload H at_263 (i := 0) rfl (x := d2) (by decide) (jn := 7) (by decide) rfl (pc' := 264) rfl ?_
                                refine s_iload H at_264 rfl (pc' := 266) rfl ?_
                                refine s_icmp H at_266 (py := 271) (pc' := 269) q_eq (by decide) rfl (fun c266 => ?_) (fun c266 => ?_)
                                · refine s_iload H at_271 rfl (pc' := 273) rfl ?_
                                  refine s_iconst H at_273 (z := (4 : Int32)) (by decide) (pc' := 274) rfl ?_
                                  refine s_icmp H at_274 (py := 289) (pc' := 277) q_lt (by decide) rfl (fun c274 => ?_) (fun c274 => ?_)
                                  · refine s_iconst H at_289 (z := (1 : Int32)) (by decide) (pc' := 290) rfl ?_
                                    exact s_iret H at_290 rfl (by simp) (by decide) (by decide) (rfl)
                                  · exact absurd c274 (by decide)
                                · exact absurd rfl c266
                            · exact absurd rfl c248
                        · exact absurd rfl c230
                    · exact absurd c208 (by decide)
                  · exact absurd (own_b255 i2) c200
                · exact absurd c182 (by decide)
              · exact absurd (own_len16 ⟨8, by decide⟩) c175
            · exact absurd (own_b255 i1) c148
          · exact absurd (by decide) c130
        · exact absurd c115 (by decide)
set_option maxRecDepth 65536 in
set_option maxHeartbeats 40000000 in
theorem s36_3_x {Z : State} {k : Cx} {i0 i1 i2 i3 d0 d1 d2 cc : Int32} {i4 : Int64} (H : Ok Z k room_1 (LQ) x code maxLocals ret) (h0 : nar .byte d0 = d0) (h1 : nar .byte d1 = d1) (h2 : nar .byte d2 = d2) (hc : ¬ (cc = 1 ∨ cc = 2)) (hc0 : 0 ≤ cc.toInt) (hc7 : cc.toInt ≤ 7) : Go Z k 0 0 ([] : Hp) 36 #[.val (.int i0), .val (.int i1), .val (.int i2), .val (.int i3), .val (.long i4), .second, .val (.int cc), .val (.int (3 : Int32)), .val (.int d0), .val (.int d1), .val (.int d2), .unset, .unset, .unset, .unset, .unset, .unset] [] := by
  refine s_iload H at_36 rfl (pc' := 38) rfl ?_
  refine s_iload H at_38 rfl (pc' := 40) rfl ?_
  refine s_iload H at_40 rfl (pc' := 42) rfl ?_
  refine s_iload H at_42 rfl (pc' := 44) rfl ?_
  refine s_static H (met_md3 H.tb d0 d1 d2 h0 h1 h2) at_44 (mem (i := 0) rfl) (mem (i := 1) rfl) (mem (i := 2) rfl) (mem (i := 3) rfl) (by decide) pd_1 rfl (rest := []) rfl rfl (by decide) (Nat.le_of_ble_eq_true rfl) (cn' := 1) (sn' := 3) rfl rfl (by decide) (by decide) (pc' := 47) rfl (fun _ _ hq => ?_)
  obtain ⟨da, rfl, rfl⟩ := hq
  show Go Z k 1 3 ((da, ArI Z .byte ([d0, d1, d2] : List Int32)) :: []) 47 #[.val (.int i0), .val (.int i1), .val (.int i2), .val (.int i3), .val (.long i4), .second, .val (.int cc), .val (.int (3 : Int32)), .val (.int d0), .val (.int d1), .val (.int d2), .unset, .unset, .unset, .unset, .unset, .unset] [(.ref da)]
  refine s_astore H at_47 (L' := #[.val (.int i0), .val (.int i1), .val (.int i2), .val (.int i3), .val (.long i4), .second, .val (.int cc), .val (.int (3 : Int32)), .val (.int d0), .val (.int d1), .val (.int d2), .val (.ref da), .unset, .unset, .unset, .unset, .unset]) rfl rfl (pc' := 49) rfl ?_
  refine s_aload H at_49 rfl rfl (pc' := 51) rfl ?_
  refine s_alenI H at_51 (i := 0) rfl (z := (3 : Int32)) rfl (pc' := 52) rfl ?_
  refine s_istore H at_52 (L' := fun z => #[.val (.int i0), .val (.int i1), .val (.int i2), .val (.int i3), .val (.long i4), .second, .val (.int cc), .val (.int (3 : Int32)), .val (.int d0), .val (.int d1), .val (.int d2), .val (.ref da), .val (.int z), .unset, .unset, .unset, .unset]) (fun _ => rfl) (pc' := 54) rfl (fun z0 hz => ?_)
  subst z0
  refine s_new H (C := "com/example/quintet/quintet/EapPacket") [("com/example/quintet/quintet/EapPacket", "code", "I", (.int (0 : Int32))), ("com/example/quintet/quintet/EapPacket", "identifier", "I", (.int (0 : Int32))), ("com/example/quintet/quintet/EapPacket", "type", "I", (.int (0 : Int32))), ("com/example/quintet/quintet/EapPacket", "data", "[B", .null)] at_54 (mem (i := 5) rfl) (mem (i := 6) rfl) (mem (i := 7) rfl) (allC ⟨Or.inr (mem (i := 20) rfl), .int, by decide, rfl⟩ (allC ⟨Or.inr (mem (i := 22) rfl), .int, by decide, rfl⟩ (allC ⟨Or.inr (mem (i := 24) rfl), .int, by decide, rfl⟩ (allC ⟨Or.inr (mem (i := 26) rfl), (.array .byte), by decide, rfl⟩ allN)))) (by decide) (cn' := 2) (sn' := 7) rfl rfl (by decide) (by decide) (pc' := 57) rfl (fun a1 => ?_)
  refine s_dup H at_57 rfl (pc' := 58) rfl ?_
  refine s_iload H at_58 rfl (pc' := 60) rfl ?_
  refine s_iloadn H at_60 rfl (pc' := 61) rfl ?_
  refine s_iloadn H at_61 rfl (pc' := 62) rfl ?_
  refine s_aload H at_62 rfl rfl (pc' := 64) rfl ?_
  refine s_init H (met_ei H.tb a1 da cc i1 i2) at_64 rfl (mem (i := 8) rfl) (mem (i := 9) rfl) (mem (i := 7) rfl) (mem (i := 10) rfl) (by decide) pd_2 rfl (rest := [(.ref a1)]) rfl rfl (by decide) (Nat.le_of_ble_eq_true rfl) (cn' := 2) (sn' := 7) rfl rfl (by decide) (by decide) (pc' := 67) rfl (fun _ _ hq => ?_)
  obtain ⟨rfl, rfl⟩ := hq
  show Go Z k 2 7 ((a1, Obj Z "com/example/quintet/quintet/EapPacket" [("com/example/quintet/quintet/EapPacket", "code", "I", (.int cc)), ("com/example/quintet/quintet/EapPacket", "identifier", "I", (.int i1)), ("com/example/quintet/quintet/EapPacket", "type", "I", (.int i2)), ("com/example/quintet/quintet/EapPacket", "data", "[B", (.ref da))]) :: (da, ArI Z .byte ([d0, d1, d2] : List Int32)) :: []) 67 #[.val (.int i0), .val (.int i1), .val (.int i2), .val (.int i3), .val (.long i4), .second, .val (.int cc), .val (.int (3 : Int32)), .val (.int d0), .val (.int d1), .val (.int d2), .val (.ref da), .val (.int (3 : Int32)), .unset, .unset, .unset, .unset] [(.ref a1)]
  refine s_astore H at_67 (L' := #[.val (.int i0), .val (.int i1), .val (.int i2), .val (.int i3), .val (.long i4), .second, .val (.int cc), .val (.int (3 : Int32)), .val (.int d0), .val (.int d1), .val (.int d2), .val (.ref da), .val (.int (3 : Int32)), .val (.ref a1), .unset, .unset, .unset]) rfl rfl (pc' := 69) rfl ?_
  refine s_aload H at_69 rfl rfl (pc' := 71) rfl ?_
  refine s_virtual H (met_byf H.tb a1 da cc i1 i2 ([d0, d1, d2] : List Int32) hc) at_71 (i := 0) rfl (mem (i := 27) rfl) (mem (i := 28) rfl) (mem (i := 30) rfl) (mem (i := 29) rfl) (mem (i := 7) rfl) (mem (i := 31) rfl) (by decide) pd_5 rfl (rest := []) rfl rfl (by decide) (Nat.le_of_ble_eq_true rfl) (cn' := 3) (sn' := 11) rfl rfl (by decide) (by decide) (pc' := 74) rfl (fun _ _ hq => ?_)
  obtain ⟨ou, rfl, rfl⟩ := hq
  show Go Z k 3 11 ((ou, ArI Z .byte ([(cc.toInt8.toInt32), (i1.toInt8.toInt32), ((((4 : Int32).toUInt32 >>> ((8 : Int32) &&& 31).toUInt32).toInt32).toInt8.toInt32), ((4 : Int32).toInt8.toInt32)] : List Int32)) :: (a1, Obj Z "com/example/quintet/quintet/EapPacket" [("com/example/quintet/quintet/EapPacket", "code", "I", (.int cc)), ("com/example/quintet/quintet/EapPacket", "identifier", "I", (.int i1)), ("com/example/quintet/quintet/EapPacket", "type", "I", (.int i2)), ("com/example/quintet/quintet/EapPacket", "data", "[B", (.ref da))]) :: (da, ArI Z .byte ([d0, d1, d2] : List Int32)) :: []) 74 #[.val (.int i0), .val (.int i1), .val (.int i2), .val (.int i3), .val (.long i4), .second, .val (.int cc), .val (.int (3 : Int32)), .val (.int d0), .val (.int d1), .val (.int d2), .val (.ref da), .val (.int (3 : Int32)), .val (.ref a1), .unset, .unset, .unset] [(.ref ou)]
  refine s_astore H at_74 (L' := #[.val (.int i0), .val (.int i1), .val (.int i2), .val (.int i3), .val (.long i4), .second, .val (.int cc), .val (.int (3 : Int32)), .val (.int d0), .val (.int d1), .val (.int d2), .val (.ref da), .val (.int (3 : Int32)), .val (.ref a1), .val (.ref ou), .unset, .unset]) rfl rfl (pc' := 76) rfl ?_
  refine s_iload H at_76 rfl (pc' := 78) rfl ?_
  refine s_iconst H at_78 (z := (1 : Int32)) (by decide) (pc' := 79) rfl ?_
  refine s_icmp H at_79 (py := 88) (pc' := 82) q_eq (by decide) rfl (fun c79 => ?_) (fun c79 => ?_)
  · exact absurd (Or.inl c79) hc
  · refine s_iload H at_82 rfl (pc' := 84) rfl ?_
    refine s_iconst H at_84 (z := (2 : Int32)) (by decide) (pc' := 85) rfl ?_
    refine s_icmp H at_85 (py := 92) (pc' := 88) q_ne (by decide) rfl (fun c85 => ?_) (fun c85 => ?_)
    · refine s_iconst H at_92 (z := (0 : Int32)) (by decide) (pc' := 93) rfl ?_
      refine s_istore H at_93 (L' := fun z => #[.val (.int i0), .val (.int i1), .val (.int i2), .val (.int i3), .val (.long i4), .second, .val (.int cc), .val (.int (3 : Int32)), .val (.int d0), .val (.int d1), .val (.int d2), .val (.ref da), .val (.int (3 : Int32)), .val (.ref a1), .val (.ref ou), .val (.int z), .unset]) (fun _ => rfl) (pc' := 95) rfl (fun z0 hz => ?_)
      subst z0
      refine s_iload H at_95 rfl (pc' := 97) rfl ?_
      refine s_if H at_97 (py := 107) (pc' := 100) z_eq (by decide) rfl (fun c97 => ?_) (fun c97 => ?_)
      · refine s_iconst H at_107 (z := (4 : Int32)) (by decide) (pc' := 108) rfl ?_
        refine s_istore H at_108 (L' := fun z => #[.val (.int i0), .val (.int i1), .val (.int i2), .val (.int i3), .val (.long i4), .second, .val (.int cc), .val (.int (3 : Int32)), .val (.int d0), .val (.int d1), .val (.int d2), .val (.ref da), .val (.int (3 : Int32)), .val (.ref a1), .val (.ref ou), .val (.int (0 : Int32)), .val (.int z)]) (fun _ => rfl) (pc' := 110) rfl (fun z0 hz => ?_)
        subst z0
        refine s_aload H at_110 rfl rfl (pc' := 112) rfl ?_
        refine s_alenI H at_112 (i := 0) rfl (z := (4 : Int32)) rfl (pc' := 113) rfl ?_
        refine s_iload H at_113 rfl (pc' := 115) rfl ?_
        refine s_icmp H at_115 (py := 120) (pc' := 118) q_eq (by decide) rfl (fun c115 => ?_) (fun c115 => ?_)
        · refine s_aload H at_120 rfl rfl (pc' := 122) rfl ?_
          refine s_iconst H at_122 (z := (0 : Int32)) (by decide) (pc' := 123) rfl ?_
          refine s_baload H at_123 (i := 0) rfl (x := (cc.toInt8.toInt32)) (by decide) (jn := 0) (by decide) rfl (pc' := 124) rfl ?_
          refine s_sipush H at_124 (z := (255 : Int32)) (by decide) (pc' := 127) rfl ?_
          refine s_iand H at_127 (pc' := 128) rfl ?_
          refine s_iload H at_128 rfl (pc' := 130) rfl ?_
          refine s_icmp H at_130 (py := 135) (pc' := 133) q_eq (by decide) rfl (fun c130 => ?_) (fun c130 => ?_)
          · refine s_aload H at_135 rfl rfl (pc' := 137) rfl ?_
            refine s_iconst H at_137 (z := (1 : Int32)) (by decide) (pc' := 138) rfl ?_
            refine s_baload H at_138 (i := 0) rfl (x := (i1.toInt8.toInt32)) (by decide) (jn := 1) (by decide) rfl (pc' := 139) rfl ?_
            refine s_sipush H at_139 (z := (255 : Int32)) (by decide) (pc' := 142) rfl ?_
            refine s_iand H at_142 (pc' := 143) rfl ?_
            refine s_iloadn H at_143 rfl (pc' := 144) rfl ?_
            refine s_sipush H at_144 (z := (255 : Int32)) (by decide) (pc' := 147) rfl ?_
            refine s_iand H at_147 (pc' := 148) rfl ?_
            refine s_icmp H at_148 (py := 153) (pc' := 151) q_eq (by decide) rfl (fun c148 => ?_) (fun c148 => ?_)
            · refine s_aload H at_153 rfl rfl (pc' := 155) rfl ?_
              refine s_iconst H at_155 (z := (2 : Int32)) (by decide) (pc' := 156) rfl ?_
              refine s_baload H at_156 (i := 0) rfl (x := ((((4 : Int32).toUInt32 >>> ((8 : Int32) &&& 31).toUInt32).toInt32).toInt8.toInt32)) (by decide) (jn := 2) (by decide) rfl (pc' := 157) rfl ?_
              refine s_sipush H at_157 (z := (255 : Int32)) (by decide) (pc' := 160) rfl ?_
              refine s_iand H at_160 (pc' := 161) rfl ?_
              refine s_bipush H at_161 (z := (8 : Int32)) (by decide) (pc' := 163) rfl ?_
              refine s_ishl H at_163 (pc' := 164) rfl ?_
              refine s_aload H at_164 rfl rfl (pc' := 166) rfl ?_
              refine s_iconst H at_166 (z := (3 : Int32)) (by decide) (pc' := 167) rfl ?_
              refine s_baload H at_167 (i := 0) rfl (x := ((4 : Int32).toInt8.toInt32)) (by decide) (jn := 3) (by decide) rfl (pc' := 168) rfl ?_
              refine s_sipush H at_168 (z := (255 : Int32)) (by decide) (pc' := 171) rfl ?_
              refine s_iand H at_171 (pc' := 172) rfl ?_
              refine s_ior H at_172 (pc' := 173) rfl ?_
              refine s_iload H at_173 rfl (pc' := 175) rfl ?_
              refine s_icmp H at_175 (py := 180) (pc' := 178) q_eq (by decide) rfl (fun c175 => ?_) (fun c175 => ?_)
              · refine s_iload H at_180 rfl (pc' := 182) rfl ?_
                refine s_if H at_182 (py := 187) (pc' := 185) z_ne (by decide) rfl (fun c182 => ?_) (fun c182 => ?_)
                · exact absurd c182 (by decide)
                · refine s_iconst H at_185 (z := (1 : Int32)) (by decide) (pc' := 186) rfl ?_
                  exact s_iret H at_186 rfl (by simp) (by decide) (by decide) (rfl)
              · exact absurd (by decide) c175
            · exact absurd (own_b255 i1) c148
          · exact absurd (own_code hc0 hc7) c130
        · exact absurd c115 (by decide)
      · exact absurd c97 (by decide)
    · exact absurd (Or.inr (Classical.not_not.mp c85)) hc
set_option maxRecDepth 65536 in
set_option maxHeartbeats 40000000 in
theorem s36_4_1 {Z : State} {k : Cx} {i0 i1 i2 i3 d0 d1 d2 : Int32} {i4 : Int64} (H : Ok Z k room_1 (LQ) x code maxLocals ret) (h0 : nar .byte d0 = d0) (h1 : nar .byte d1 = d1) (h2 : nar .byte d2 = d2) : Go Z k 0 0 ([] : Hp) 36 #[.val (.int i0), .val (.int i1), .val (.int i2), .val (.int i3), .val (.long i4), .second, .val (.int (1 : Int32)), .val (.int (4 : Int32)), .val (.int d0), .val (.int d1), .val (.int d2), .unset, .unset, .unset, .unset, .unset, .unset] [] := by
  refine s_iload H at_36 rfl (pc' := 38) rfl ?_
  refine s_iload H at_38 rfl (pc' := 40) rfl ?_
  refine s_iload H at_40 rfl (pc' := 42) rfl ?_
  refine s_iload H at_42 rfl (pc' := 44) rfl ?_
  refine s_static H (met_md4 H.tb d0 d1 d2 h0 h1 h2) at_44 (mem (i := 0) rfl) (mem (i := 1) rfl) (mem (i := 2) rfl) (mem (i := 3) rfl) (by decide) pd_1 rfl (rest := []) rfl rfl (by decide) (Nat.le_of_ble_eq_true rfl) (cn' := 1) (sn' := 250) rfl rfl (by decide) (by decide) (pc' := 47) rfl (fun _ _ hq => ?_)
  obtain ⟨da, dl, e1, e2, e3, e4, e5, e6, rfl, rfl⟩ := hq
  show Go Z k 1 250 ((da, ArI Z .byte dl) :: []) 47 #[.val (.int i0), .val (.int i1), .val (.int i2), .val (.int i3), .val (.long i4), .second, .val (.int (1 : Int32)), .val (.int (4 : Int32)), .val (.int d0), .val (.int d1), .val (.int d2), .unset, .unset, .unset, .unset, .unset, .unset] [(.ref da)]
  refine s_astore H at_47 (L' := #[.val (.int i0), .val (.int i1), .val (.int i2), .val (.int i3), .val (.long i4), .second, .val (.int (1 : Int32)), .val (.int (4 : Int32)), .val (.int d0), .val (.int d1), .val (.int d2), .val (.ref da), .unset, .unset, .unset, .unset, .unset]) rfl rfl (pc' := 49) rfl ?_
  refine s_aload H at_49 rfl rfl (pc' := 51) rfl ?_
  refine s_alenI H at_51 (i := 0) rfl (z := (250 : Int32)) (by rw [e1]; rfl) (pc' := 52) rfl ?_
  refine s_istore H at_52 (L' := fun z => #[.val (.int i0), .val (.int i1), .val (.int i2), .val (.int i3), .val (.long i4), .second, .val (.int (1 : Int32)), .val (.int (4 : Int32)), .val (.int d0), .val (.int d1), .val (.int d2), .val (.ref da), .val (.int z), .unset, .unset, .unset, .unset]) (fun _ => rfl) (pc' := 54) rfl (fun z0 hz => ?_)
  subst z0
  refine s_new H (C := "com/example/quintet/quintet/EapPacket") [("com/example/quintet/quintet/EapPacket", "code", "I", (.int (0 : Int32))), ("com/example/quintet/quintet/EapPacket", "identifier", "I", (.int (0 : Int32))), ("com/example/quintet/quintet/EapPacket", "type", "I", (.int (0 : Int32))), ("com/example/quintet/quintet/EapPacket", "data", "[B", .null)] at_54 (mem (i := 5) rfl) (mem (i := 6) rfl) (mem (i := 7) rfl) (allC ⟨Or.inr (mem (i := 20) rfl), .int, by decide, rfl⟩ (allC ⟨Or.inr (mem (i := 22) rfl), .int, by decide, rfl⟩ (allC ⟨Or.inr (mem (i := 24) rfl), .int, by decide, rfl⟩ (allC ⟨Or.inr (mem (i := 26) rfl), (.array .byte), by decide, rfl⟩ allN)))) (by decide) (cn' := 2) (sn' := 254) rfl rfl (by decide) (by decide) (pc' := 57) rfl (fun a1 => ?_)
  refine s_dup H at_57 rfl (pc' := 58) rfl ?_
  refine s_iload H at_58 rfl (pc' := 60) rfl ?_
  refine s_iloadn H at_60 rfl (pc' := 61) rfl ?_
  refine s_iloadn H at_61 rfl (pc' := 62) rfl ?_
  refine s_aload H at_62 rfl rfl (pc' := 64) rfl ?_
  refine s_init H (met_ei H.tb a1 da (1 : Int32) i1 i2) at_64 rfl (mem (i := 8) rfl) (mem (i := 9) rfl) (mem (i := 7) rfl) (mem (i := 10) rfl) (by decide) pd_2 rfl (rest := [(.ref a1)]) rfl rfl (by decide) (Nat.le_of_ble_eq_true rfl) (cn' := 2) (sn' := 254) rfl rfl (by decide) (by decide) (pc' := 67) rfl (fun _ _ hq => ?_)
  obtain ⟨rfl, rfl⟩ := hq
  show Go Z k 2 254 ((a1, Obj Z "com/example/quintet/quintet/EapPacket" [("com/example/quintet/quintet/EapPacket", "code", "I", (.int (1 : Int32))), ("com/example/quintet/quintet/EapPacket", "identifier", "I", (.int i1)), ("com/example/quintet/quintet/EapPacket", "type", "I", (.int i2)), ("com/example/quintet/quintet/EapPacket", "data", "[B", (.ref da))]) :: (da, ArI Z .byte dl) :: []) 67 #[.val (.int i0), .val (.int i1), .val (.int i2), .val (.int i3), .val (.long i4), .second, .val (.int (1 : Int32)), .val (.int (4 : Int32)), .val (.int d0), .val (.int d1), .val (.int d2), .val (.ref da), .val (.int (250 : Int32)), .unset, .unset, .unset, .unset] [(.ref a1)]
  refine s_astore H at_67 (L' := #[.val (.int i0), .val (.int i1), .val (.int i2), .val (.int i3), .val (.long i4), .second, .val (.int (1 : Int32)), .val (.int (4 : Int32)), .val (.int d0), .val (.int d1), .val (.int d2), .val (.ref da), .val (.int (250 : Int32)), .val (.ref a1), .unset, .unset, .unset]) rfl rfl (pc' := 69) rfl ?_
  refine s_aload H at_69 rfl rfl (pc' := 71) rfl ?_
  refine s_virtual H (met_byt H.tb a1 da (1 : Int32) i1 i2 dl (by decide) (by omega)) at_71 (i := 0) rfl (mem (i := 27) rfl) (mem (i := 28) rfl) (mem (i := 30) rfl) (mem (i := 29) rfl) (mem (i := 7) rfl) (mem (i := 31) rfl) (by decide) pd_5 rfl (rest := []) rfl rfl (by decide) (Nat.le_of_ble_eq_true rfl) (cn' := 3) (sn' := 559) rfl rfl (by decide) (by decide) (pc' := 74) rfl (fun _ _ hq => ?_)
  obtain ⟨ou, rfl, rfl⟩ := hq
  show Go Z k 3 559 ((ou, ArI Z .byte (((1 : Int32).toInt8.toInt32) :: (i1.toInt8.toInt32) :: ((((5 + dl.length).toInt32.toUInt32 >>> ((8 : Int32) &&& 31).toUInt32).toInt32).toInt8.toInt32) :: ((5 + dl.length).toInt32.toInt8.toInt32) :: (i2.toInt8.toInt32) :: dl)) :: (a1, Obj Z "com/example/quintet/quintet/EapPacket" [("com/example/quintet/quintet/EapPacket", "code", "I", (.int (1 : Int32))), ("com/example/quintet/quintet/EapPacket", "identifier", "I", (.int i1)), ("com/example/quintet/quintet/EapPacket", "type", "I", (.int i2)), ("com/example/quintet/quintet/EapPacket", "data", "[B", (.ref da))]) :: (da, ArI Z .byte dl) :: []) 74 #[.val (.int i0), .val (.int i1), .val (.int i2), .val (.int i3), .val (.long i4), .second, .val (.int (1 : Int32)), .val (.int (4 : Int32)), .val (.int d0), .val (.int d1), .val (.int d2), .val (.ref da), .val (.int (250 : Int32)), .val (.ref a1), .unset, .unset, .unset] [(.ref ou)]
  rw [e1]
  show Go Z k 3 559 ((ou, ArI Z .byte (((1 : Int32).toInt8.toInt32) :: (i1.toInt8.toInt32) :: ((((255 : Nat).toInt32.toUInt32 >>> ((8 : Int32) &&& 31).toUInt32).toInt32).toInt8.toInt32) :: ((255 : Nat).toInt32.toInt8.toInt32) :: (i2.toInt8.toInt32) :: dl)) :: (a1, Obj Z "com/example/quintet/quintet/EapPacket" [("com/example/quintet/quintet/EapPacket", "code", "I", (.int (1 : Int32))), ("com/example/quintet/quintet/EapPacket", "identifier", "I", (.int i1)), ("com/example/quintet/quintet/EapPacket", "type", "I", (.int i2)), ("com/example/quintet/quintet/EapPacket", "data", "[B", (.ref da))]) :: (da, ArI Z .byte dl) :: []) 74 #[.val (.int i0), .val (.int i1), .val (.int i2), .val (.int i3), .val (.long i4), .second, .val (.int (1 : Int32)), .val (.int (4 : Int32)), .val (.int d0), .val (.int d1), .val (.int d2), .val (.ref da), .val (.int (250 : Int32)), .val (.ref a1), .unset, .unset, .unset] [(.ref ou)]
  refine s_astore H at_74 (L' := #[.val (.int i0), .val (.int i1), .val (.int i2), .val (.int i3), .val (.long i4), .second, .val (.int (1 : Int32)), .val (.int (4 : Int32)), .val (.int d0), .val (.int d1), .val (.int d2), .val (.ref da), .val (.int (250 : Int32)), .val (.ref a1), .val (.ref ou), .unset, .unset]) rfl rfl (pc' := 76) rfl ?_
  refine s_iload H at_76 rfl (pc' := 78) rfl ?_
  refine s_iconst H at_78 (z := (1 : Int32)) (by decide) (pc' := 79) rfl ?_
  refine s_icmp H at_79 (py := 88) (pc' := 82) q_eq (by decide) rfl (fun c79 => ?_) (fun c79 => ?_)
  · refine s_iconst H at_88 (z := (1 : Int32)) (by decide) (pc' := 89) rfl ?_
    refine s_goto H at_89 (pc' := 93) (by decide) ?_
    refine s_istore H at_93 (L' := fun z => #[.val (.int i0), .val (.int i1), .val (.int i2), .val (.int i3), .val (.long i4), .second, .val (.int (1 : Int32)), .val (.int (4 : Int32)), .val (.int d0), .val (.int d1), .val (.int d2), .val (.ref da), .val (.int (250 : Int32)), .val (.ref a1), .val (.ref ou), .val (.int z), .unset]) (fun _ => rfl) (pc' := 95) rfl (fun z0 hz => ?_)
    subst z0
    refine s_iload H at_95 rfl (pc' := 97) rfl ?_
    refine s_if H at_97 (py := 107) (pc' := 100) z_eq (by decide) rfl (fun c97 => ?_) (fun c97 => ?_)
    · exact absurd c97 (by decide)
    · refine s_iconst H at_100 (z := (5 : Int32)) (by decide) (pc' := 101) rfl ?_
      refine s_iload H at_101 rfl (pc' := 103) rfl ?_
      refine s_iadd H at_103 (pc' := 104) rfl ?_
      refine s_goto H at_104 (pc' := 108) (by decide) ?_
      refine s_istore H at_108 (L' := fun z => #[.val (.int i0), .val (.int i1), .val (.int i2), .val (.int i3), .val (.long i4), .second, .val (.int (1 : Int32)), .val (.int (4 : Int32)), .val (.int d0), .val (.int d1), .val (.int d2), .val (.ref da), .val (.int (250 : Int32)), .val (.ref a1), .val (.ref ou), .val (.int (1 : Int32)), .val (.int z)]) (fun _ => rfl) (pc' := 110) rfl (fun z0 hz => ?_)
      subst z0
      refine s_aload H at_110 rfl rfl (pc' := 112) rfl ?_
      refine s_alenI H at_112 (i := 0) rfl (z := (255 : Int32)) (by simp only [List.length_cons, e1]; rfl) (pc' := 113) rfl ?_
      refine s_iload H at_113 rfl (pc' := 115) rfl ?_
      refine s_icmp H at_115 (py := 120) (pc' := 118) q_eq (by decide) rfl (fun c115 => ?_) (fun c115 => ?_)
      · refine s_aload H at_120 rfl rfl (pc' := 122) rfl ?_
        refine s_iconst H at_122 (z := (0 : Int32)) (by decide) (pc' := 123) rfl ?_
        refine s_baload H at_123 (i := 0) rfl (x := ((1 : Int32).toInt8.toInt32)) (by decide) (jn := 0) (by decide) rfl (pc' := 124) rfl ?_
        refine s_sipush H at_124 (z := (255 : Int32)) (by decide) (pc' := 127) rfl ?_
        refine s_iand H at_127 (pc' := 128) rfl ?_
        refine s_iload H at_128 rfl (pc' := 130) rfl ?_
        refine s_icmp H at_130 (py := 135) (pc' := 133) q_eq (by decide) rfl (fun c130 => ?_) (fun c130 => ?_)
        · refine s_aload H at_135 rfl rfl (pc' := 137) rfl ?_
          refine s_iconst H at_137 (z := (1 : Int32)) (by decide) (pc' := 138) rfl ?_
          refine s_baload H at_138 (i := 0) rfl (x := (i1.toInt8.toInt32)) (by decide) (jn := 1) (by decide) rfl (pc' := 139) rfl ?_
          refine s_sipush H at_139 (z := (255 : Int32)) (by decide) (pc' := 142) rfl ?_
          refine s_iand H at_142 (pc' := 143) rfl ?_
          refine s_iloadn H at_143 rfl (pc' := 144) rfl ?_
          refine s_sipush H at_144 (z := (255 : Int32)) (by decide) (pc' := 147) rfl ?_
          refine s_iand H at_147 (pc' := 148) rfl ?_
          refine s_icmp H at_148 (py := 153) (pc' := 151) q_eq (by decide) rfl (fun c148 => ?_) (fun c148 => ?_)
          · refine s_aload H at_153 rfl rfl (pc' := 155) rfl ?_
            refine s_iconst H at_155 (z := (2 : Int32)) (by decide) (pc' := 156) rfl ?_
            refine s_baload H at_156 (i := 0) rfl (x := ((((255 : Nat).toInt32.toUInt32 >>> ((8 : Int32) &&& 31).toUInt32).toInt32).toInt8.toInt32)) (by decide) (jn := 2) (by decide) rfl (pc' := 157) rfl ?_
            refine s_sipush H at_157 (z := (255 : Int32)) (by decide) (pc' := 160) rfl ?_
            refine s_iand H at_160 (pc' := 161) rfl ?_
            refine s_bipush H at_161 (z := (8 : Int32)) (by decide) (pc' := 163) rfl ?_
            refine s_ishl H at_163 (pc' := 164) rfl ?_
            refine s_aload H at_164 rfl rfl (pc' := 166) rfl ?_
            refine s_iconst H at_166 (z := (3 : Int32)) (by decide) (pc' := 167) rfl ?_
            refine s_baload H at_167 (i := 0) rfl (x := ((255 : Nat).toInt32.toInt8.toInt32)) (by decide) (jn := 3) (by decide) rfl (pc' := 168) rfl ?_
            refine s_sipush H at_168 (z := (255 : Int32)) (by decide) (pc' := 171) rfl ?_
            refine s_iand H at_171 (pc' := 172) rfl ?_
            refine s_ior H at_172 (pc' := 173) rfl ?_
            refine s_iload H at_173 rfl (pc' := 175) rfl ?_
            refine s_icmp H at_175 (py := 180) (pc' := 178) q_eq (by decide) rfl (fun c175 => ?_) (fun c175 => ?_)
            · refine s_iload H at_180 rfl (pc' := 182) rfl ?_
              refine s_if H at_182 (py := 187) (pc' := 185) z_ne (by decide) rfl (fun c182 => ?_) (fun c182 => ?_)
              · refine s_aload H at_187 rfl rfl (pc' := 189) rfl ?_
                refine s_iconst H at_189 (z := (4 : Int32)) (by decide) (pc' := 190) rfl ?_
                refine s_baload H at_190 (i := 0) rfl (x := (i2.toInt8.toInt32)) (by decide) (jn := 4) (by decide) rfl (pc' := 191) rfl ?_
                refine s_sipush H at_191 (z := (255 : Int32)) (by decide) (pc' := 194) rfl ?_
                refine s_iand H at_194 (pc' := 195) rfl ?_
                refine s_iloadn H at_195 rfl (pc' := 196) rfl ?_
                refine s_sipush H at_196 (z := (255 : Int32)) (by decide) (pc' := 199) rfl ?_
                refine s_iand H at_199 (pc' := 200) rfl ?_
                refine s_icmp H at_200 (py := 205) (pc' := 203) q_eq (by decide) rfl (fun c200 => ?_) (fun c200 => ?_)
                · refine s_iload H at_205 rfl (pc' := 207) rfl ?_
                  refine s_iconst H at_207 (z := (3 : Int32)) (by decide) (pc' := 208) rfl ?_
                  refine s_icmp H at_208 (py := 218) (pc' := 211) q_le (by decide) rfl (fun c208 => ?_) (fun c208 => ?_)
                  · exact absurd c208 (by decide)
                  · refine s_iload H at_211 rfl (pc' := 213) rfl ?_
                    refine s_bipush H at_213 (z := (7 : Int32)) (by decide) (pc' := 215) rfl ?_
                    refine s_icmp H at_215 (py := 291) (pc' := 218) q_ne (by decide) rfl (fun c215 => ?_) (fun c215 => ?_)
                    · refine s_aload H at_291 rfl rfl (pc' := 293) rfl ?_
                      refine s_iconst H at_293 (z := (5 : Int32)) (by decide) (pc' := 294) rfl ?_
                      refine s_baload H at_294 (i := 0) rfl (x := d0) (by decide) (jn := 5) (by decide) e2 (pc' := 295) rfl ?_
                      refine s_iload H at_295 rfl (pc' := 297) rfl ?_
                      refine s_icmp H at_297 (py := 302) (pc' := 300) q_eq (by decide) rfl (fun c297 => ?_) (fun c297 => ?_)
                      · refine s_aload H at_302 rfl rfl (pc' := 304) rfl ?_
                        refine s_iconst H at_304 (z := (5 : Int32)) (by decide) (pc' := 305) rfl ?_
                        refine s_iload H at_305 rfl (pc' := 307) rfl ?_
                        refine s_iconst H at_307 (z := (2 : Int32)) (by decide) (pc' := 308) rfl ?_
                        refine s_idiv H at_308 (by decide) (pc' := 309) rfl ?_
                        refine s_iadd H at_309 (pc' := 310) rfl ?_
                        refine s_baload H at_310 (i := 0) rfl (x := d2) (by decide) (jn := 130) (by decide) e3 (pc' := 311) rfl ?_
                        refine s_iload H at_311 rfl (pc' := 313) rfl ?_
                        refine s_icmp H at_313 (py := 318) (pc' := 316) q_eq (by decide) rfl (fun c313 => ?_) (fun c313 => ?_)
                        · refine s_aload H at_318 rfl rfl (pc' := 320) rfl ?_
                          refine s_iconst H at_320 (z := (4 : Int32)) (by decide) (pc' := 321) rfl ?_
                          refine s_iload H at_321 rfl (pc' := 323) rfl ?_
                          refine s_iadd H at_323 (pc' := 324) rfl ?_
                          refine s_baload H at_324 (i := 0) rfl (x := d1) (by decide) (jn := 254) (by decide) e4 (pc' := 325) rfl ?_
                          refine s_iload H at_325 rfl (pc' := 327) rfl ?_
                          refine s_icmp H at_327 (py := 332) (pc' := 330) q_eq (by decide) rfl (fun c327 => ?_) (fun c327 => ?_)
                          · refine s_aload H at_332 rfl rfl (pc' := 334) rfl ?_
                            refine s_bipush H at_334 (z := (6 : Int32)) (by decide) (pc' := 336) rfl ?_
                            refine s_baload H at_336 (i := 0) rfl (x := (0 : Int32)) (by decide) (jn := 6) (by decide) e5 (pc' := 337) rfl ?_
                            refine s_if H at_337 (py := 342) (pc' := 340) z_eq (by decide) rfl (fun c337 => ?_) (fun c337 => ?_)
                            · refine s_aload H at_342 rfl rfl (pc' := 344) rfl ?_
                              refine s_iconst H at_344 (z := (3 : Int32)) (by decide) (pc' := 345) rfl ?_
                              refine s_iload H at_345 rfl (pc' := 347) rfl ?_
                              refine s_iadd H at_347 (pc' := 348) rfl ?_
                              refine s_baload H at_348 (i := 0) rfl (x := (0 : Int32)) (by decide) (jn := 253) (by decide) e6 (pc' := 349) rfl ?_
                              refine s_if H at_349 (py := 354) (pc' := 352) z_eq (by decide) rfl (fun c349 => ?_) (fun c349 => ?_)
                              · refine s_iconst H at_354 (z := (1 : Int32)) (by decide) (pc' := 355) rfl ?_
                                exact s_iret H at_355 rfl (by simp) (by decide) (by decide) (rfl)
                              · exact absurd c349 (by decide)
                            · exact absurd c337 (by decide)
                          · exact absurd rfl c327
                        · exact absurd rfl c313
                      · exact absurd rfl c297
                    · exact absurd c215 (by decide)
                · exact absurd (own_b255 i2) c200
              · exact absurd c182 (by decide)
            · exact absurd (own_len16 ⟨255, by decide⟩) c175
          · exact absurd (own_b255 i1) c148
        · exact absurd (by decide) c130
      · exact absurd c115 (by decide)
  · exact absurd c79 (by decide)
set_option maxRecDepth 65536 in
set_option maxHeartbeats 40000000 in
theorem s36_4_2 {Z : State} {k : Cx} {i0 i1 i2 i3 d0 d1 d2 : Int32} {i4 : Int64} (H : Ok Z k room_1 (LQ) x code maxLocals ret) (h0 : nar .byte d0 = d0) (h1 : nar .byte d1 = d1) (h2 : nar .byte d2 = d2) : Go Z k 0 0 ([] : Hp) 36 #[.val (.int i0), .val (.int i1), .val (.int i2), .val (.int i3), .val (.long i4), .second, .val (.int (2 : Int32)), .val (.int (4 : Int32)), .val (.int d0), .val (.int d1), .val (.int d2), .unset, .unset, .unset, .unset, .unset, .unset] [] := by
  refine s_iload H at_36 rfl (pc' := 38) rfl ?_
  refine s_iload H at_38 rfl (pc' := 40) rfl ?_
  refine s_iload H at_40 rfl (pc' := 42) rfl ?_
  refine s_iload H at_42 rfl (pc' := 44) rfl ?_
  refine s_static H (met_md4 H.tb d0 d1 d2 h0 h1 h2) at_44 (mem (i := 0) rfl) (mem (i := 1) rfl) (mem (i := 2) rfl) (mem (i := 3) rfl) (by decide) pd_1 rfl (rest := []) rfl rfl (by decide) (Nat.le_of_ble_eq_true rfl) (cn' := 1) (sn' := 250) rfl rfl (by decide) (by decide) (pc' := 47) rfl (fun _ _ hq => ?_)
  obtain ⟨da, dl, e1, e2, e3, e4, e5, e6, rfl, rfl⟩ := hq
  show Go Z k 1 250 ((da, ArI Z .byte dl) :: []) 47 #[.val (.int i0), .val (.int i1), .val (.int i2), .val (.int i3), .val (.long i4), .second, .val (.int (2 : Int32)), .val (.int (4 : Int32)), .val (.int d0), .val (.int d1), .val (.int d2), .unset, .unset, .unset, .unset, .unset, .unset] [(.ref da)]
  refine s_astore H at_47 (L' := #[.val (.int i0), .val (.int i1), .val (.int i2), .val (.int i3), .val (.long i4), .second, .val (.int (2 : Int32)), .val (.int (4 : Int32)), .val (.int d0), .val (.int d1), .val (.int d2), .val (.ref da), .unset, .unset, .unset, .unset, .unset]) rfl rfl (pc' := 49) rfl ?_
  refine s_aload H at_49 rfl rfl (pc' := 51) rfl ?_
  refine s_alenI H at_51 (i := 0) rfl (z := (250 : Int32)) (by rw [e1]; rfl) (pc' := 52) rfl ?_
  refine s_istore H at_52 (L' := fun z => #[.val (.int i0), .val (.int i1), .val (.int i2), .val (.int i3), .val (.long i4), .second, .val (.int (2 : Int32)), .val (.int (4 : Int32)), .val (.int d0), .val (.int d1), .val (.int d2), .val (.ref da), .val (.int z), .unset, .unset, .unset, .unset]) (fun _ => rfl) (pc' := 54) rfl (fun z0 hz => ?_)
  subst z0
  refine s_new H (C := "com/example/quintet/quintet/EapPacket") [("com/example/quintet/quintet/EapPacket", "code", "I", (.int (0 : Int32))), ("com/example/quintet/quintet/EapPacket", "identifier", "I", (.int (0 : Int32))), ("com/example/quintet/quintet/EapPacket", "type", "I", (.int (0 : Int32))), ("com/example/quintet/quintet/EapPacket", "data", "[B", .null)] at_54 (mem (i := 5) rfl) (mem (i := 6) rfl) (mem (i := 7) rfl) (allC ⟨Or.inr (mem (i := 20) rfl), .int, by decide, rfl⟩ (allC ⟨Or.inr (mem (i := 22) rfl), .int, by decide, rfl⟩ (allC ⟨Or.inr (mem (i := 24) rfl), .int, by decide, rfl⟩ (allC ⟨Or.inr (mem (i := 26) rfl), (.array .byte), by decide, rfl⟩ allN)))) (by decide) (cn' := 2) (sn' := 254) rfl rfl (by decide) (by decide) (pc' := 57) rfl (fun a1 => ?_)
  refine s_dup H at_57 rfl (pc' := 58) rfl ?_
  refine s_iload H at_58 rfl (pc' := 60) rfl ?_
  refine s_iloadn H at_60 rfl (pc' := 61) rfl ?_
  refine s_iloadn H at_61 rfl (pc' := 62) rfl ?_
  refine s_aload H at_62 rfl rfl (pc' := 64) rfl ?_
  refine s_init H (met_ei H.tb a1 da (2 : Int32) i1 i2) at_64 rfl (mem (i := 8) rfl) (mem (i := 9) rfl) (mem (i := 7) rfl) (mem (i := 10) rfl) (by decide) pd_2 rfl (rest := [(.ref a1)]) rfl rfl (by decide) (Nat.le_of_ble_eq_true rfl) (cn' := 2) (sn' := 254) rfl rfl (by decide) (by decide) (pc' := 67) rfl (fun _ _ hq => ?_)
  obtain ⟨rfl, rfl⟩ := hq
  show Go Z k 2 254 ((a1, Obj Z "com/example/quintet/quintet/EapPacket" [("com/example/quintet/quintet/EapPacket", "code", "I", (.int (2 : Int32))), ("com/example/quintet/quintet/EapPacket", "identifier", "I", (.int i1)), ("com/example/quintet/quintet/EapPacket", "type", "I", (.int i2)), ("com/example/quintet/quintet/EapPacket", "data", "[B", (.ref da))]) :: (da, ArI Z .byte dl) :: []) 67 #[.val (.int i0), .val (.int i1), .val (.int i2), .val (.int i3), .val (.long i4), .second, .val (.int (2 : Int32)), .val (.int (4 : Int32)), .val (.int d0), .val (.int d1), .val (.int d2), .val (.ref da), .val (.int (250 : Int32)), .unset, .unset, .unset, .unset] [(.ref a1)]
  refine s_astore H at_67 (L' := #[.val (.int i0), .val (.int i1), .val (.int i2), .val (.int i3), .val (.long i4), .second, .val (.int (2 : Int32)), .val (.int (4 : Int32)), .val (.int d0), .val (.int d1), .val (.int d2), .val (.ref da), .val (.int (250 : Int32)), .val (.ref a1), .unset, .unset, .unset]) rfl rfl (pc' := 69) rfl ?_
  refine s_aload H at_69 rfl rfl (pc' := 71) rfl ?_
  refine s_virtual H (met_byt H.tb a1 da (2 : Int32) i1 i2 dl (by decide) (by omega)) at_71 (i := 0) rfl (mem (i := 27) rfl) (mem (i := 28) rfl) (mem (i := 30) rfl) (mem (i := 29) rfl) (mem (i := 7) rfl) (mem (i := 31) rfl) (by decide) pd_5 rfl (rest := []) rfl rfl (by decide) (Nat.le_of_ble_eq_true rfl) (cn' := 3) (sn' := 559) rfl rfl (by decide) (by decide) (pc' := 74) rfl (fun _ _ hq => ?_)
  obtain ⟨ou, rfl, rfl⟩ := hq
  show Go Z k 3 559 ((ou, ArI Z .byte (((2 : Int32).toInt8.toInt32) :: (i1.toInt8.toInt32) :: ((((5 + dl.length).toInt32.toUInt32 >>> ((8 : Int32) &&& 31).toUInt32).toInt32).toInt8.toInt32) :: ((5 + dl.length).toInt32.toInt8.toInt32) :: (i2.toInt8.toInt32) :: dl)) :: (a1, Obj Z "com/example/quintet/quintet/EapPacket" [("com/example/quintet/quintet/EapPacket", "code", "I", (.int (2 : Int32))), ("com/example/quintet/quintet/EapPacket", "identifier", "I", (.int i1)), ("com/example/quintet/quintet/EapPacket", "type", "I", (.int i2)), ("com/example/quintet/quintet/EapPacket", "data", "[B", (.ref da))]) :: (da, ArI Z .byte dl) :: []) 74 #[.val (.int i0), .val (.int i1), .val (.int i2), .val (.int i3), .val (.long i4), .second, .val (.int (2 : Int32)), .val (.int (4 : Int32)), .val (.int d0), .val (.int d1), .val (.int d2), .val (.ref da), .val (.int (250 : Int32)), .val (.ref a1), .unset, .unset, .unset] [(.ref ou)]
  rw [e1]
  show Go Z k 3 559 ((ou, ArI Z .byte (((2 : Int32).toInt8.toInt32) :: (i1.toInt8.toInt32) :: ((((255 : Nat).toInt32.toUInt32 >>> ((8 : Int32) &&& 31).toUInt32).toInt32).toInt8.toInt32) :: ((255 : Nat).toInt32.toInt8.toInt32) :: (i2.toInt8.toInt32) :: dl)) :: (a1, Obj Z "com/example/quintet/quintet/EapPacket" [("com/example/quintet/quintet/EapPacket", "code", "I", (.int (2 : Int32))), ("com/example/quintet/quintet/EapPacket", "identifier", "I", (.int i1)), ("com/example/quintet/quintet/EapPacket", "type", "I", (.int i2)), ("com/example/quintet/quintet/EapPacket", "data", "[B", (.ref da))]) :: (da, ArI Z .byte dl) :: []) 74 #[.val (.int i0), .val (.int i1), .val (.int i2), .val (.int i3), .val (.long i4), .second, .val (.int (2 : Int32)), .val (.int (4 : Int32)), .val (.int d0), .val (.int d1), .val (.int d2), .val (.ref da), .val (.int (250 : Int32)), .val (.ref a1), .unset, .unset, .unset] [(.ref ou)]
  refine s_astore H at_74 (L' := #[.val (.int i0), .val (.int i1), .val (.int i2), .val (.int i3), .val (.long i4), .second, .val (.int (2 : Int32)), .val (.int (4 : Int32)), .val (.int d0), .val (.int d1), .val (.int d2), .val (.ref da), .val (.int (250 : Int32)), .val (.ref a1), .val (.ref ou), .unset, .unset]) rfl rfl (pc' := 76) rfl ?_
  refine s_iload H at_76 rfl (pc' := 78) rfl ?_
  refine s_iconst H at_78 (z := (1 : Int32)) (by decide) (pc' := 79) rfl ?_
  refine s_icmp H at_79 (py := 88) (pc' := 82) q_eq (by decide) rfl (fun c79 => ?_) (fun c79 => ?_)
  · exact absurd c79 (by decide)
  · refine s_iload H at_82 rfl (pc' := 84) rfl ?_
    refine s_iconst H at_84 (z := (2 : Int32)) (by decide) (pc' := 85) rfl ?_
    refine s_icmp H at_85 (py := 92) (pc' := 88) q_ne (by decide) rfl (fun c85 => ?_) (fun c85 => ?_)
    · exact absurd c85 (by decide)
    · refine s_iconst H at_88 (z := (1 : Int32)) (by decide) (pc' := 89) rfl ?_
      refine s_goto H at_89 (pc' := 93) (by decide) ?_
      refine s_istore H at_93 (L' := fun z => #[.val (.int i0), .val (.int i1), .val (.int i2), .val (.int i3), .val (.long i4), .second, .val (.int (2 : Int32)), .val (.int (4 : Int32)), .val (.int d0), .val (.int d1), .val (.int d2), .val (.ref da), .val (.int (250 : Int32)), .val (.ref a1), .val (.ref ou), .val (.int z), .unset]) (fun _ => rfl) (pc' := 95) rfl (fun z0 hz => ?_)
      subst z0
      refine s_iload H at_95 rfl (pc' := 97) rfl ?_
      refine s_if H at_97 (py := 107) (pc' := 100) z_eq (by decide) rfl (fun c97 => ?_) (fun c97 => ?_)
      · exact absurd c97 (by decide)
      · refine s_iconst H at_100 (z := (5 : Int32)) (by decide) (pc' := 101) rfl ?_
        refine s_iload H at_101 rfl (pc' := 103) rfl ?_
        refine s_iadd H at_103 (pc' := 104) rfl ?_
        refine s_goto H at_104 (pc' := 108) (by decide) ?_
        refine s_istore H at_108 (L' := fun z => #[.val (.int i0), .val (.int i1), .val (.int i2), .val (.int i3), .val (.long i4), .second, .val (.int (2 : Int32)), .val (.int (4 : Int32)), .val (.int d0), .val (.int d1), .val (.int d2), .val (.ref da), .val (.int (250 : Int32)), .val (.ref a1), .val (.ref ou), .val (.int (1 : Int32)), .val (.int z)]) (fun _ => rfl) (pc' := 110) rfl (fun z0 hz => ?_)
        subst z0
        refine s_aload H at_110 rfl rfl (pc' := 112) rfl ?_
        refine s_alenI H at_112 (i := 0) rfl (z := (255 : Int32)) (by simp only [List.length_cons, e1]; rfl) (pc' := 113) rfl ?_
        refine s_iload H at_113 rfl (pc' := 115) rfl ?_
        refine s_icmp H at_115 (py := 120) (pc' := 118) q_eq (by decide) rfl (fun c115 => ?_) (fun c115 => ?_)
        · refine s_aload H at_120 rfl rfl (pc' := 122) rfl ?_
          refine s_iconst H at_122 (z := (0 : Int32)) (by decide) (pc' := 123) rfl ?_
          refine s_baload H at_123 (i := 0) rfl (x := ((2 : Int32).toInt8.toInt32)) (by decide) (jn := 0) (by decide) rfl (pc' := 124) rfl ?_
          refine s_sipush H at_124 (z := (255 : Int32)) (by decide) (pc' := 127) rfl ?_
          refine s_iand H at_127 (pc' := 128) rfl ?_
          refine s_iload H at_128 rfl (pc' := 130) rfl ?_
          refine s_icmp H at_130 (py := 135) (pc' := 133) q_eq (by decide) rfl (fun c130 => ?_) (fun c130 => ?_)
          · refine s_aload H at_135 rfl rfl (pc' := 137) rfl ?_
            refine s_iconst H at_137 (z := (1 : Int32)) (by decide) (pc' := 138) rfl ?_
            refine s_baload H at_138 (i := 0) rfl (x := (i1.toInt8.toInt32)) (by decide) (jn := 1) (by decide) rfl (pc' := 139) rfl ?_
            refine s_sipush H at_139 (z := (255 : Int32)) (by decide) (pc' := 142) rfl ?_
            refine s_iand H at_142 (pc' := 143) rfl ?_
            refine s_iloadn H at_143 rfl (pc' := 144) rfl ?_
            refine s_sipush H at_144 (z := (255 : Int32)) (by decide) (pc' := 147) rfl ?_
            refine s_iand H at_147 (pc' := 148) rfl ?_
            refine s_icmp H at_148 (py := 153) (pc' := 151) q_eq (by decide) rfl (fun c148 => ?_) (fun c148 => ?_)
            · refine s_aload H at_153 rfl rfl (pc' := 155) rfl ?_
              refine s_iconst H at_155 (z := (2 : Int32)) (by decide) (pc' := 156) rfl ?_
              refine s_baload H at_156 (i := 0) rfl (x := ((((255 : Nat).toInt32.toUInt32 >>> ((8 : Int32) &&& 31).toUInt32).toInt32).toInt8.toInt32)) (by decide) (jn := 2) (by decide) rfl (pc' := 157) rfl ?_
              refine s_sipush H at_157 (z := (255 : Int32)) (by decide) (pc' := 160) rfl ?_
              refine s_iand H at_160 (pc' := 161) rfl ?_
              refine s_bipush H at_161 (z := (8 : Int32)) (by decide) (pc' := 163) rfl ?_
              refine s_ishl H at_163 (pc' := 164) rfl ?_
              refine s_aload H at_164 rfl rfl (pc' := 166) rfl ?_
              refine s_iconst H at_166 (z := (3 : Int32)) (by decide) (pc' := 167) rfl ?_
              refine s_baload H at_167 (i := 0) rfl (x := ((255 : Nat).toInt32.toInt8.toInt32)) (by decide) (jn := 3) (by decide) rfl (pc' := 168) rfl ?_
              refine s_sipush H at_168 (z := (255 : Int32)) (by decide) (pc' := 171) rfl ?_
              refine s_iand H at_171 (pc' := 172) rfl ?_
              refine s_ior H at_172 (pc' := 173) rfl ?_
              refine s_iload H at_173 rfl (pc' := 175) rfl ?_
              refine s_icmp H at_175 (py := 180) (pc' := 178) q_eq (by decide) rfl (fun c175 => ?_) (fun c175 => ?_)
              · refine s_iload H at_180 rfl (pc' := 182) rfl ?_
                refine s_if H at_182 (py := 187) (pc' := 185) z_ne (by decide) rfl (fun c182 => ?_) (fun c182 => ?_)
                · refine s_aload H at_187 rfl rfl (pc' := 189) rfl ?_
                  refine s_iconst H at_189 (z := (4 : Int32)) (by decide) (pc' := 190) rfl ?_
                  refine s_baload H at_190 (i := 0) rfl (x := (i2.toInt8.toInt32)) (by decide) (jn := 4) (by decide) rfl (pc' := 191) rfl ?_
                  refine s_sipush H at_191 (z := (255 : Int32)) (by decide) (pc' := 194) rfl ?_
                  refine s_iand H at_194 (pc' := 195) rfl ?_
                  refine s_iloadn H at_195 rfl (pc' := 196) rfl ?_
                  refine s_sipush H at_196 (z := (255 : Int32)) (by decide) (pc' := 199) rfl ?_
                  refine s_iand H at_199 (pc' := 200) rfl ?_
                  refine s_icmp H at_200 (py := 205) (pc' := 203) q_eq (by decide) rfl (fun c200 => ?_) (fun c200 => ?_)
                  · refine s_iload H at_205 rfl (pc' := 207) rfl ?_
                    refine s_iconst H at_207 (z := (3 : Int32)) (by decide) (pc' := 208) rfl ?_
                    refine s_icmp H at_208 (py := 218) (pc' := 211) q_le (by decide) rfl (fun c208 => ?_) (fun c208 => ?_)
                    · exact absurd c208 (by decide)
                    · refine s_iload H at_211 rfl (pc' := 213) rfl ?_
                      refine s_bipush H at_213 (z := (7 : Int32)) (by decide) (pc' := 215) rfl ?_
                      refine s_icmp H at_215 (py := 291) (pc' := 218) q_ne (by decide) rfl (fun c215 => ?_) (fun c215 => ?_)
                      · refine s_aload H at_291 rfl rfl (pc' := 293) rfl ?_
                        refine s_iconst H at_293 (z := (5 : Int32)) (by decide) (pc' := 294) rfl ?_
                        refine s_baload H at_294 (i := 0) rfl (x := d0) (by decide) (jn := 5) (by decide) e2 (pc' := 295) rfl ?_
                        refine s_iload H at_295 rfl (pc' := 297) rfl ?_
                        refine s_icmp H at_297 (py := 302) (pc' := 300) q_eq (by decide) rfl (fun c297 => ?_) (fun c297 => ?_)
                        · refine s_aload H at_302 rfl rfl (pc' := 304) rfl ?_
                          refine s_iconst H at_304 (z := (5 : Int32)) (by decide) (pc' := 305) rfl ?_
                          refine s_iload H at_305 rfl (pc' := 307) rfl ?_
                          refine s_iconst H at_307 (z := (2 : Int32)) (by decide) (pc' := 308) rfl ?_
                          refine s_idiv H at_308 (by decide) (pc' := 309) rfl ?_
                          refine s_iadd H at_309 (pc' := 310) rfl ?_
                          refine s_baload H at_310 (i := 0) rfl (x := d2) (by decide) (jn := 130) (by decide) e3 (pc' := 311) rfl ?_
                          refine s_iload H at_311 rfl (pc' := 313) rfl ?_
                          refine s_icmp H at_313 (py := 318) (pc' := 316) q_eq (by decide) rfl (fun c313 => ?_) (fun c313 => ?_)
                          · refine s_aload H at_318 rfl rfl (pc' := 320) rfl ?_
                            refine s_iconst H at_320 (z := (4 : Int32)) (by decide) (pc' := 321) rfl ?_
                            refine s_iload H at_321 rfl (pc' := 323) rfl ?_
                            refine s_iadd H at_323 (pc' := 324) rfl ?_
                            refine s_baload H at_324 (i := 0) rfl (x := d1) (by decide) (jn := 254) (by decide) e4 (pc' := 325) rfl ?_
                            refine s_iload H at_325 rfl (pc' := 327) rfl ?_
                            refine s_icmp H at_327 (py := 332) (pc' := 330) q_eq (by decide) rfl (fun c327 => ?_) (fun c327 => ?_)
                            · refine s_aload H at_332 rfl rfl (pc' := 334) rfl ?_
                              refine s_bipush H at_334 (z := (6 : Int32)) (by decide) (pc' := 336) rfl ?_
                              refine s_baload H at_336 (i := 0) rfl (x := (0 : Int32)) (by decide) (jn := 6) (by decide) e5 (pc' := 337) rfl ?_
                              refine s_if H at_337 (py := 342) (pc' := 340) z_eq (by decide) rfl (fun c337 => ?_) (fun c337 => ?_)
                              · refine s_aload H at_342 rfl rfl (pc' := 344) rfl ?_
                                refine s_iconst H at_344 (z := (3 : Int32)) (by decide) (pc' := 345) rfl ?_
                                refine s_iload H at_345 rfl (pc' := 347) rfl ?_
                                refine s_iadd H at_347 (pc' := 348) rfl ?_
                                refine s_baload H at_348 (i := 0) rfl (x := (0 : Int32)) (by decide) (jn := 253) (by decide) e6 (pc' := 349) rfl ?_
                                refine s_if H at_349 (py := 354) (pc' := 352) z_eq (by decide) rfl (fun c349 => ?_) (fun c349 => ?_)
                                · refine s_iconst H at_354 (z := (1 : Int32)) (by decide) (pc' := 355) rfl ?_
                                  exact s_iret H at_355 rfl (by simp) (by decide) (by decide) (rfl)
                                · exact absurd c349 (by decide)
                              · exact absurd c337 (by decide)
                            · exact absurd rfl c327
                          · exact absurd rfl c313
                        · exact absurd rfl c297
                      · exact absurd c215 (by decide)
                  · exact absurd (own_b255 i2) c200
                · exact absurd c182 (by decide)
              · exact absurd (own_len16 ⟨255, by decide⟩) c175
            · exact absurd (own_b255 i1) c148
          · exact absurd (by decide) c130
        · exact absurd c115 (by decide)
set_option maxRecDepth 65536 in
set_option maxHeartbeats 40000000 in
theorem s36_4_x {Z : State} {k : Cx} {i0 i1 i2 i3 d0 d1 d2 cc : Int32} {i4 : Int64} (H : Ok Z k room_1 (LQ) x code maxLocals ret) (h0 : nar .byte d0 = d0) (h1 : nar .byte d1 = d1) (h2 : nar .byte d2 = d2) (hc : ¬ (cc = 1 ∨ cc = 2)) (hc0 : 0 ≤ cc.toInt) (hc7 : cc.toInt ≤ 7) : Go Z k 0 0 ([] : Hp) 36 #[.val (.int i0), .val (.int i1), .val (.int i2), .val (.int i3), .val (.long i4), .second, .val (.int cc), .val (.int (4 : Int32)), .val (.int d0), .val (.int d1), .val (.int d2), .unset, .unset, .unset, .unset, .unset, .unset] [] := by
  refine s_iload H at_36 rfl (pc' := 38) rfl ?_
  refine s_iload H at_38 rfl (pc' := 40) rfl ?_
  refine s_iload H at_40 rfl (pc' := 42) rfl ?_
  refine s_iload H at_42 rfl (pc' := 44) rfl ?_
  refine s_static H (met_md4 H.tb d0 d1 d2 h0 h1 h2) at_44 (mem (i := 0) rfl) (mem (i := 1) rfl) (mem (i := 2) rfl) (mem (i := 3) rfl) (by decide) pd_1 rfl (rest := []) rfl rfl (by decide) (Nat.le_of_ble_eq_true rfl) (cn' := 1) (sn' := 250) rfl rfl (by decide) (by decide) (pc' := 47) rfl (fun _ _ hq => ?_)
  obtain ⟨da, dl, e1, e2, e3, e4, e5, e6, rfl, rfl⟩ := hq
  show Go Z k 1 250 ((da, ArI Z .byte dl) :: []) 47 #[.val (.int i0), .val (.int i1), .val (.int i2), .val (.int i3), .val (.long i4), .second, .val (.int cc), .val (.int (4 : Int32)), .val (.int d0), .val (.int d1), .val (.int d2), .unset, .unset, .unset, .unset, .unset, .unset] [(.ref da)]
  refine s_astore H at_47 (L' := #[.val (.int i0), .val (.int i1), .val (.int i2), .val (.int i3), .val (.long i4), .second, .val (.int cc), .val (.int (4 : Int32)), .val (.int d0), .val (.int d1), .val (.int d2), .val (.ref da), .unset, .unset, .unset, .unset, .unset]) rfl rfl (pc' := 49) rfl ?_
  refine s_aload H at_49 rfl rfl (pc' := 51) rfl ?_
  refine s_alenI H at_51 (i := 0) rfl (z := (250 : Int32)) (by rw [e1]; rfl) (pc' := 52) rfl ?_
  refine s_istore H at_52 (L' := fun z => #[.val (.int i0), .val (.int i1), .val (.int i2), .val (.int i3), .val (.long i4), .second, .val (.int cc), .val (.int (4 : Int32)), .val (.int d0), .val (.int d1), .val (.int d2), .val (.ref da), .val (.int z), .unset, .unset, .unset, .unset]) (fun _ => rfl) (pc' := 54) rfl (fun z0 hz => ?_)
  subst z0
  refine s_new H (C := "com/example/quintet/quintet/EapPacket") [("com/example/quintet/quintet/EapPacket", "code", "I", (.int (0 : Int32))), ("com/example/quintet/quintet/EapPacket", "identifier", "I", (.int (0 : Int32))), ("com/example/quintet/quintet/EapPacket", "type", "I", (.int (0 : Int32))), ("com/example/quintet/quintet/EapPacket", "data", "[B", .null)] at_54 (mem (i := 5) rfl) (mem (i := 6) rfl) (mem (i := 7) rfl) (allC ⟨Or.inr (mem (i := 20) rfl), .int, by decide, rfl⟩ (allC ⟨Or.inr (mem (i := 22) rfl), .int, by decide, rfl⟩ (allC ⟨Or.inr (mem (i := 24) rfl), .int, by decide, rfl⟩ (allC ⟨Or.inr (mem (i := 26) rfl), (.array .byte), by decide, rfl⟩ allN)))) (by decide) (cn' := 2) (sn' := 254) rfl rfl (by decide) (by decide) (pc' := 57) rfl (fun a1 => ?_)
  refine s_dup H at_57 rfl (pc' := 58) rfl ?_
  refine s_iload H at_58 rfl (pc' := 60) rfl ?_
  refine s_iloadn H at_60 rfl (pc' := 61) rfl ?_
  refine s_iloadn H at_61 rfl (pc' := 62) rfl ?_
  refine s_aload H at_62 rfl rfl (pc' := 64) rfl ?_
  refine s_init H (met_ei H.tb a1 da cc i1 i2) at_64 rfl (mem (i := 8) rfl) (mem (i := 9) rfl) (mem (i := 7) rfl) (mem (i := 10) rfl) (by decide) pd_2 rfl (rest := [(.ref a1)]) rfl rfl (by decide) (Nat.le_of_ble_eq_true rfl) (cn' := 2) (sn' := 254) rfl rfl (by decide) (by decide) (pc' := 67) rfl (fun _ _ hq => ?_)
  obtain ⟨rfl, rfl⟩ := hq
  show Go Z k 2 254 ((a1, Obj Z "com/example/quintet/quintet/EapPacket" [("com/example/quintet/quintet/EapPacket", "code", "I", (.int cc)), ("com/example/quintet/quintet/EapPacket", "identifier", "I", (.int i1)), ("com/example/quintet/quintet/EapPacket", "type", "I", (.int i2)), ("com/example/quintet/quintet/EapPacket", "data", "[B", (.ref da))]) :: (da, ArI Z .byte dl) :: []) 67 #[.val (.int i0), .val (.int i1), .val (.int i2), .val (.int i3), .val (.long i4), .second, .val (.int cc), .val (.int (4 : Int32)), .val (.int d0), .val (.int d1), .val (.int d2), .val (.ref da), .val (.int (250 : Int32)), .unset, .unset, .unset, .unset] [(.ref a1)]
  refine s_astore H at_67 (L' := #[.val (.int i0), .val (.int i1), .val (.int i2), .val (.int i3), .val (.long i4), .second, .val (.int cc), .val (.int (4 : Int32)), .val (.int d0), .val (.int d1), .val (.int d2), .val (.ref da), .val (.int (250 : Int32)), .val (.ref a1), .unset, .unset, .unset]) rfl rfl (pc' := 69) rfl ?_
  refine s_aload H at_69 rfl rfl (pc' := 71) rfl ?_
  refine s_virtual H (met_byf H.tb a1 da cc i1 i2 dl hc) at_71 (i := 0) rfl (mem (i := 27) rfl) (mem (i := 28) rfl) (mem (i := 30) rfl) (mem (i := 29) rfl) (mem (i := 7) rfl) (mem (i := 31) rfl) (by decide) pd_5 rfl (rest := []) rfl rfl (by decide) (Nat.le_of_ble_eq_true rfl) (cn' := 3) (sn' := 258) rfl rfl (by decide) (by decide) (pc' := 74) rfl (fun _ _ hq => ?_)
  obtain ⟨ou, rfl, rfl⟩ := hq
  show Go Z k 3 258 ((ou, ArI Z .byte ([(cc.toInt8.toInt32), (i1.toInt8.toInt32), ((((4 : Int32).toUInt32 >>> ((8 : Int32) &&& 31).toUInt32).toInt32).toInt8.toInt32), ((4 : Int32).toInt8.toInt32)] : List Int32)) :: (a1, Obj Z "com/example/quintet/quintet/EapPacket" [("com/example/quintet/quintet/EapPacket", "code", "I", (.int cc)), ("com/example/quintet/quintet/EapPacket", "identifier", "I", (.int i1)), ("com/example/quintet/quintet/EapPacket", "type", "I", (.int i2)), ("com/example/quintet/quintet/EapPacket", "data", "[B", (.ref da))]) :: (da, ArI Z .byte dl) :: []) 74 #[.val (.int i0), .val (.int i1), .val (.int i2), .val (.int i3), .val (.long i4), .second, .val (.int cc), .val (.int (4 : Int32)), .val (.int d0), .val (.int d1), .val (.int d2), .val (.ref da), .val (.int (250 : Int32)), .val (.ref a1), .unset, .unset, .unset] [(.ref ou)]
  refine s_astore H at_74 (L' := #[.val (.int i0), .val (.int i1), .val (.int i2), .val (.int i3), .val (.long i4), .second, .val (.int cc), .val (.int (4 : Int32)), .val (.int d0), .val (.int d1), .val (.int d2), .val (.ref da), .val (.int (250 : Int32)), .val (.ref a1), .val (.ref ou), .unset, .unset]) rfl rfl (pc' := 76) rfl ?_
  refine s_iload H at_76 rfl (pc' := 78) rfl ?_
  refine s_iconst H at_78 (z := (1 : Int32)) (by decide) (pc' := 79) rfl ?_
  refine s_icmp H at_79 (py := 88) (pc' := 82) q_eq (by decide) rfl (fun c79 => ?_) (fun c79 => ?_)
  · exact absurd (Or.inl c79) hc
  · refine s_iload H at_82 rfl (pc' := 84) rfl ?_
    refine s_iconst H at_84 (z := (2 : Int32)) (by decide) (pc' := 85) rfl ?_
    refine s_icmp H at_85 (py := 92) (pc' := 88) q_ne (by decide) rfl (fun c85 => ?_) (fun c85 => ?_)
    · refine s_iconst H at_92 (z := (0 : Int32)) (by decide) (pc' := 93) rfl ?_
      refine s_istore H at_93 (L' := fun z => #[.val (.int i0), .val (.int i1), .val (.int i2), .val (.int i3), .val (.long i4), .second, .val (.int cc), .val (.int (4 : Int32)), .val (.int d0), .val (.int d1), .val (.int d2), .val (.ref da), .val (.int (250 : Int32)), .val (.ref a1), .val (.ref ou), .val (.int z), .unset]) (fun _ => rfl) (pc' := 95) rfl (fun z0 hz => ?_)
      subst z0
      refine s_iload H at_95 rfl (pc' := 97) rfl ?_
      refine s_if H at_97 (py := 107) (pc' := 100) z_eq (by decide) rfl (fun c97 => ?_) (fun c97 => ?_)
      · refine s_iconst H at_107 (z := (4 : Int32)) (by decide) (pc' := 108) rfl ?_
        refine s_istore H at_108 (L' := fun z => #[.val (.int i0), .val (.int i1), .val (.int i2), .val (.int i3), .val (.long i4), .second, .val (.int cc), .val (.int (4 : Int32)), .val (.int d0), .val (.int d1), .val (.int d2), .val (.ref da), .val (.int (250 : Int32)), .val (.ref a1), .val (.ref ou), .val (.int (0 : Int32)), .val (.int z)]) (fun _ => rfl) (pc' := 110) rfl (fun z0 hz => ?_)
        subst z0
        refine s_aload H at_110 rfl rfl (pc' := 112) rfl ?_
        refine s_alenI H at_112 (i := 0) rfl (z := (4 : Int32)) rfl (pc' := 113) rfl ?_
        refine s_iload H at_113 rfl (pc' := 115) rfl ?_
        refine s_icmp H at_115 (py := 120) (pc' := 118) q_eq (by decide) rfl (fun c115 => ?_) (fun c115 => ?_)
        · refine s_aload H at_120 rfl rfl (pc' := 122) rfl ?_
          refine s_iconst H at_122 (z := (0 : Int32)) (by decide) (pc' := 123) rfl ?_
          refine s_baload H at_123 (i := 0) rfl (x := (cc.toInt8.toInt32)) (by decide) (jn := 0) (by decide) rfl (pc' := 124) rfl ?_
          refine s_sipush H at_124 (z := (255 : Int32)) (by decide) (pc' := 127) rfl ?_
          refine s_iand H at_127 (pc' := 128) rfl ?_
          refine s_iload H at_128 rfl (pc' := 130) rfl ?_
          refine s_icmp H at_130 (py := 135) (pc' := 133) q_eq (by decide) rfl (fun c130 => ?_) (fun c130 => ?_)
          · refine s_aload H at_135 rfl rfl (pc' := 137) rfl ?_
            refine s_iconst H at_137 (z := (1 : Int32)) (by decide) (pc' := 138) rfl ?_
            refine s_baload H at_138 (i := 0) rfl (x := (i1.toInt8.toInt32)) (by decide) (jn := 1) (by decide) rfl (pc' := 139) rfl ?_
            refine s_sipush H at_139 (z := (255 : Int32)) (by decide) (pc' := 142) rfl ?_
            refine s_iand H at_142 (pc' := 143) rfl ?_
            refine s_iloadn H at_143 rfl (pc' := 144) rfl ?_
            refine s_sipush H at_144 (z := (255 : Int32)) (by decide) (pc' := 147) rfl ?_
            refine s_iand H at_147 (pc' := 148) rfl ?_
            refine s_icmp H at_148 (py := 153) (pc' := 151) q_eq (by decide) rfl (fun c148 => ?_) (fun c148 => ?_)
            · refine s_aload H at_153 rfl rfl (pc' := 155) rfl ?_
              refine s_iconst H at_155 (z := (2 : Int32)) (by decide) (pc' := 156) rfl ?_
              refine s_baload H at_156 (i := 0) rfl (x := ((((4 : Int32).toUInt32 >>> ((8 : Int32) &&& 31).toUInt32).toInt32).toInt8.toInt32)) (by decide) (jn := 2) (by decide) rfl (pc' := 157) rfl ?_
              refine s_sipush H at_157 (z := (255 : Int32)) (by decide) (pc' := 160) rfl ?_
              refine s_iand H at_160 (pc' := 161) rfl ?_
              refine s_bipush H at_161 (z := (8 : Int32)) (by decide) (pc' := 163) rfl ?_
              refine s_ishl H at_163 (pc' := 164) rfl ?_
              refine s_aload H at_164 rfl rfl (pc' := 166) rfl ?_
              refine s_iconst H at_166 (z := (3 : Int32)) (by decide) (pc' := 167) rfl ?_
              refine s_baload H at_167 (i := 0) rfl (x := ((4 : Int32).toInt8.toInt32)) (by decide) (jn := 3) (by decide) rfl (pc' := 168) rfl ?_
              refine s_sipush H at_168 (z := (255 : Int32)) (by decide) (pc' := 171) rfl ?_
              refine s_iand H at_171 (pc' := 172) rfl ?_
              refine s_ior H at_172 (pc' := 173) rfl ?_
              refine s_iload H at_173 rfl (pc' := 175) rfl ?_
              refine s_icmp H at_175 (py := 180) (pc' := 178) q_eq (by decide) rfl (fun c175 => ?_) (fun c175 => ?_)
              · refine s_iload H at_180 rfl (pc' := 182) rfl ?_
                refine s_if H at_182 (py := 187) (pc' := 185) z_ne (by decide) rfl (fun c182 => ?_) (fun c182 => ?_)
                · exact absurd c182 (by decide)
                · refine s_iconst H at_185 (z := (1 : Int32)) (by decide) (pc' := 186) rfl ?_
                  exact s_iret H at_186 rfl (by simp) (by decide) (by decide) (rfl)
              · exact absurd (by decide) c175
            · exact absurd (own_b255 i1) c148
          · exact absurd (own_code hc0 hc7) c130
        · exact absurd c115 (by decide)
      · exact absurd c97 (by decide)
    · exact absurd (Or.inr (Classical.not_not.mp c85)) hc
set_option maxRecDepth 65536 in
set_option maxHeartbeats 40000000 in
theorem s36_5_1 {Z : State} {k : Cx} {i0 i1 i2 i3 d0 d1 d2 : Int32} {i4 : Int64} (H : Ok Z k room_1 (LQ) x code maxLocals ret) (h0 : nar .byte d0 = d0) (h1 : nar .byte d1 = d1) (h2 : nar .byte d2 = d2) : Go Z k 0 0 ([] : Hp) 36 #[.val (.int i0), .val (.int i1), .val (.int i2), .val (.int i3), .val (.long i4), .second, .val (.int (1 : Int32)), .val (.int (5 : Int32)), .val (.int d0), .val (.int d1), .val (.int d2), .unset, .unset, .unset, .unset, .unset, .unset] [] := by
  refine s_iload H at_36 rfl (pc' := 38) rfl ?_
  refine s_iload H at_38 rfl (pc' := 40) rfl ?_
  refine s_iload H at_40 rfl (pc' := 42) rfl ?_
  refine s_iload H at_42 rfl (pc' := 44) rfl ?_
  refine s_static H (met_md5 H.tb d0 d1 d2 h0 h1 h2) at_44 (mem (i := 0) rfl) (mem (i := 1) rfl) (mem (i := 2) rfl) (mem (i := 3) rfl) (by decide) pd_1 rfl (rest := []) rfl rfl (by decide) (Nat.le_of_ble_eq_true rfl) (cn' := 1) (sn' := 251) rfl rfl (by decide) (by decide) (pc' := 47) rfl (fun _ _ hq => ?_)
  obtain ⟨da, dl, e1, e2, e3, e4, e5, e6, rfl, rfl⟩ := hq
  show Go Z k 1 251 ((da, ArI Z .byte dl) :: []) 47 #[.val (.int i0), .val (.int i1), .val (.int i2), .val (.int i3), .val (.long i4), .second, .val (.int (1 : Int32)), .val (.int (5 : Int32)), .val (.int d0), .val (.int d1), .val (.int d2), .unset, .unset, .unset, .unset, .unset, .unset] [(.ref da)]
  refine s_astore H at_47 (L' := #[.val (.int i0), .val (.int i1), .val (.int i2), .val (.int i3), .val (.long i4), .second, .val (.int (1 : Int32)), .val (.int (5 : Int32)), .val (.int d0), .val (.int d1), .val (.int d2), .val (.ref da), .unset, .unset, .unset, .unset, .unset]) rfl rfl (pc' := 49) rfl ?_
  refine s_aload H at_49 rfl rfl (pc' := 51) rfl ?_
  refine s_alenI H at_51 (i := 0) rfl (z := (251 : Int32)) (by rw [e1]; rfl) (pc' := 52) rfl ?_
  refine s_istore H at_52 (L' := fun z => #[.val (.int i0), .val (.int i1), .val (.int i2), .val (.int i3), .val (.long i4), .second, .val (.int (1 : Int32)), .val (.int (5 : Int32)), .val (.int d0), .val (.int d1), .val (.int d2), .val (.ref da), .val (.int z), .unset, .unset, .unset, .unset]) (fun _ => rfl) (pc' := 54) rfl (fun z0 hz => ?_)
  subst z0
  refine s_new H (C := "com/example/quintet/quintet/EapPacket") [("com/example/quintet/quintet/EapPacket", "code", "I", (.int (0 : Int32))), ("com/example/quintet/quintet/EapPacket", "identifier", "I", (.int (0 : Int32))), ("com/example/quintet/quintet/EapPacket", "type", "I", (.int (0 : Int32))), ("com/example/quintet/quintet/EapPacket", "data", "[B", .null)] at_54 (mem (i := 5) rfl) (mem (i := 6) rfl) (mem (i := 7) rfl) (allC ⟨Or.inr (mem (i := 20) rfl), .int, by decide, rfl⟩ (allC ⟨Or.inr (mem (i := 22) rfl), .int, by decide, rfl⟩ (allC ⟨Or.inr (mem (i := 24) rfl), .int, by decide, rfl⟩ (allC ⟨Or.inr (mem (i := 26) rfl), (.array .byte), by decide, rfl⟩ allN)))) (by decide) (cn' := 2) (sn' := 255) rfl rfl (by decide) (by decide) (pc' := 57) rfl (fun a1 => ?_)
  refine s_dup H at_57 rfl (pc' := 58) rfl ?_
  refine s_iload H at_58 rfl (pc' := 60) rfl ?_
  refine s_iloadn H at_60 rfl (pc' := 61) rfl ?_
  refine s_iloadn H at_61 rfl (pc' := 62) rfl ?_
  refine s_aload H at_62 rfl rfl (pc' := 64) rfl ?_
  refine s_init H (met_ei H.tb a1 da (1 : Int32) i1 i2) at_64 rfl (mem (i := 8) rfl) (mem (i := 9) rfl) (mem (i := 7) rfl) (mem (i := 10) rfl) (by decide) pd_2 rfl (rest := [(.ref a1)]) rfl rfl (by decide) (Nat.le_of_ble_eq_true rfl) (cn' := 2) (sn' := 255) rfl rfl (by decide) (by decide) (pc' := 67) rfl (fun _ _ hq => ?_)
  obtain ⟨rfl, rfl⟩ := hq
  show Go Z k 2 255 ((a1, Obj Z "com/example/quintet/quintet/EapPacket" [("com/example/quintet/quintet/EapPacket", "code", "I", (.int (1 : Int32))), ("com/example/quintet/quintet/EapPacket", "identifier", "I", (.int i1)), ("com/example/quintet/quintet/EapPacket", "type", "I", (.int i2)), ("com/example/quintet/quintet/EapPacket", "data", "[B", (.ref da))]) :: (da, ArI Z .byte dl) :: []) 67 #[.val (.int i0), .val (.int i1), .val (.int i2), .val (.int i3), .val (.long i4), .second, .val (.int (1 : Int32)), .val (.int (5 : Int32)), .val (.int d0), .val (.int d1), .val (.int d2), .val (.ref da), .val (.int (251 : Int32)), .unset, .unset, .unset, .unset] [(.ref a1)]
  refine s_astore H at_67 (L' := #[.val (.int i0), .val (.int i1), .val (.int i2), .val (.int i3), .val (.long i4), .second, .val (.int (1 : Int32)), .val (.int (5 : Int32)), .val (.int d0), .val (.int d1), .val (.int d2), .val (.ref da), .val (.int (251 : Int32)), .val (.ref a1), .unset, .unset, .unset]) rfl rfl (pc' := 69) rfl ?_
  refine s_aload H at_69 rfl rfl (pc' := 71) rfl ?_
  refine s_virtual H (met_byt H.tb a1 da (1 : Int32) i1 i2 dl (by decide) (by omega)) at_71 (i := 0) rfl (mem (i := 27) rfl) (mem (i := 28) rfl) (mem (i := 30) rfl) (mem (i := 29) rfl) (mem (i := 7) rfl) (mem (i := 31) rfl) (by decide) pd_5 rfl (rest := []) rfl rfl (by decide) (Nat.le_of_ble_eq_true rfl) (cn' := 3) (sn' := 560) rfl rfl (by decide) (by decide) (pc' := 74) rfl (fun _ _ hq => ?_)
  obtain ⟨ou, rfl, rfl⟩ := hq
  show Go Z k 3 560 ((ou, ArI Z .byte (((1 : Int32).toInt8.toInt32) :: (i1.toInt8.toInt32) :: ((((5 + dl.length).toInt32.toUInt32 >>> ((8 : Int32) &&& 31).toUInt32).toInt32).toInt8.toInt32) :: ((5 + dl.length).toInt32.toInt8.toInt32) :: (i2.toInt8.toInt32) :: dl)) :: (a1, Obj Z "com/example/quintet/quintet/EapPacket" [("com/example/quintet/quintet/EapPacket", "code", "I", (.int (1 : Int32))), ("com/example/quintet/quintet/EapPacket", "identifier", "I", (.int i1)), ("com/example/quintet/quintet/EapPacket", "type", "I", (.int i2)), ("com/example/quintet/quintet/EapPacket", "data", "[B", (.ref da))]) :: (da, ArI Z .byte dl) :: []) 74 #[.val (.int i0), .val (.int i1), .val (.int i2), .val (.int i3), .val (.long i4), .second, .val (.int (1 : Int32)), .val (.int (5 : Int32)), .val (.int d0), .val (.int d1), .val (.int d2), .val (.ref da), .val (.int (251 : Int32)), .val (.ref a1), .unset, .unset, .unset] [(.ref ou)]
  rw [e1]
  show Go Z k 3 560 ((ou, ArI Z .byte (((1 : Int32).toInt8.toInt32) :: (i1.toInt8.toInt32) :: ((((256 : Nat).toInt32.toUInt32 >>> ((8 : Int32) &&& 31).toUInt32).toInt32).toInt8.toInt32) :: ((256 : Nat).toInt32.toInt8.toInt32) :: (i2.toInt8.toInt32) :: dl)) :: (a1, Obj Z "com/example/quintet/quintet/EapPacket" [("com/example/quintet/quintet/EapPacket", "code", "I", (.int (1 : Int32))), ("com/example/quintet/quintet/EapPacket", "identifier", "I", (.int i1)), ("com/example/quintet/quintet/EapPacket", "type", "I", (.int i2)), ("com/example/quintet/quintet/EapPacket", "data", "[B", (.ref da))]) :: (da, ArI Z .byte dl) :: []) 74 #[.val (.int i0), .val (.int i1), .val (.int i2), .val (.int i3), .val (.long i4), .second, .val (.int (1 : Int32)), .val (.int (5 : Int32)), .val (.int d0), .val (.int d1), .val (.int d2), .val (.ref da), .val (.int (251 : Int32)), .val (.ref a1), .unset, .unset, .unset] [(.ref ou)]
  refine s_astore H at_74 (L' := #[.val (.int i0), .val (.int i1), .val (.int i2), .val (.int i3), .val (.long i4), .second, .val (.int (1 : Int32)), .val (.int (5 : Int32)), .val (.int d0), .val (.int d1), .val (.int d2), .val (.ref da), .val (.int (251 : Int32)), .val (.ref a1), .val (.ref ou), .unset, .unset]) rfl rfl (pc' := 76) rfl ?_
  refine s_iload H at_76 rfl (pc' := 78) rfl ?_
  refine s_iconst H at_78 (z := (1 : Int32)) (by decide) (pc' := 79) rfl ?_
  refine s_icmp H at_79 (py := 88) (pc' := 82) q_eq (by decide) rfl (fun c79 => ?_) (fun c79 => ?_)
  · refine s_iconst H at_88 (z := (1 : Int32)) (by decide) (pc' := 89) rfl ?_
    refine s_goto H at_89 (pc' := 93) (by decide) ?_
    refine s_istore H at_93 (L' := fun z => #[.val (.int i0), .val (.int i1), .val (.int i2), .val (.int i3), .val (.long i4), .second, .val (.int (1 : Int32)), .val (.int (5 : Int32)), .val (.int d0), .val (.int d1), .val (.int d2), .val (.ref da), .val (.int (251 : Int32)), .val (.ref a1), .val (.ref ou), .val (.int z), .unset]) (fun _ => rfl) (pc' := 95) rfl (fun z0 hz => ?_)
    subst z0
    refine s_iload H at_95 rfl (pc' := 97) rfl ?_
    refine s_if H at_97 (py := 107) (pc' := 100) z_eq (by decide) rfl (fun c97 => ?_) (fun c97 => ?_)
    · exact absurd c97 (by decide)
    · refine s_iconst H at_100 (z := (5 : Int32)) (by decide) (pc' := 101) rfl ?_
      refine s_iload H at_101 rfl (pc' := 103) rfl ?_
      refine s_iadd H at_103 (pc' := 104) rfl ?_
      refine s_goto H at_104 (pc' := 108) (by decide) ?_
      refine s_istore H at_108 (L' := fun z => #[.val (.int i0), .val (.int i1), .val (.int i2), .val (.int i3), .val (.long i4), .second, .val (.int (1 : Int32)), .val (.int (5 : Int32)), .val (.int d0), .val (.int d1), .val (.int d2), .val (.ref da), .val (.int (251 : Int32)), .val (.ref a1), .val (.ref ou), .val (.int (1 : Int32)), .val (.int z)]) (fun _ => rfl) (pc' := 110) rfl (fun z0 hz => ?_)
      subst z0
      refine s_aload H at_110 rfl rfl (pc' := 112) rfl ?_
      refine s_alenI H at_112 (i := 0) rfl (z := (256 : Int32)) (by simp only [List.length_cons, e1]; rfl) (pc' := 113) rfl ?_
      refine s_iload H at_113 rfl (pc' := 115) rfl ?_
      refine s_icmp H at_115 (py := 120) (pc' := 118) q_eq (by decide) rfl (fun c115 => ?_) (fun c115 => ?_)
      · refine s_aload H at_120 rfl rfl (pc' := 122) rfl ?_
        refine s_iconst H at_122 (z := (0 : Int32)) (by decide) (pc' := 123) rfl ?_
        refine s_baload H at_123 (i := 0) rfl (x := ((1 : Int32).toInt8.toInt32)) (by decide) (jn := 0) (by decide) rfl (pc' := 124) rfl ?_
        refine s_sipush H at_124 (z := (255 : Int32)) (by decide) (pc' := 127) rfl ?_
        refine s_iand H at_127 (pc' := 128) rfl ?_
        refine s_iload H at_128 rfl (pc' := 130) rfl ?_
        refine s_icmp H at_130 (py := 135) (pc' := 133) q_eq (by decide) rfl (fun c130 => ?_) (fun c130 => ?_)
        · refine s_aload H at_135 rfl rfl (pc' := 137) rfl ?_
          refine s_iconst H at_137 (z := (1 : Int32)) (by decide) (pc' := 138) rfl ?_
          refine s_baload H at_138 (i := 0) rfl (x := (i1.toInt8.toInt32)) (by decide) (jn := 1) (by decide) rfl (pc' := 139) rfl ?_
          refine s_sipush H at_139 (z := (255 : Int32)) (by decide) (pc' := 142) rfl ?_
          refine s_iand H at_142 (pc' := 143) rfl ?_
          refine s_iloadn H at_143 rfl (pc' := 144) rfl ?_
          refine s_sipush H at_144 (z := (255 : Int32)) (by decide) (pc' := 147) rfl ?_
          refine s_iand H at_147 (pc' := 148) rfl ?_
          refine s_icmp H at_148 (py := 153) (pc' := 151) q_eq (by decide) rfl (fun c148 => ?_) (fun c148 => ?_)
          · refine s_aload H at_153 rfl rfl (pc' := 155) rfl ?_
            refine s_iconst H at_155 (z := (2 : Int32)) (by decide) (pc' := 156) rfl ?_
            refine s_baload H at_156 (i := 0) rfl (x := ((((256 : Nat).toInt32.toUInt32 >>> ((8 : Int32) &&& 31).toUInt32).toInt32).toInt8.toInt32)) (by decide) (jn := 2) (by decide) rfl (pc' := 157) rfl ?_
            refine s_sipush H at_157 (z := (255 : Int32)) (by decide) (pc' := 160) rfl ?_
            refine s_iand H at_160 (pc' := 161) rfl ?_
            refine s_bipush H at_161 (z := (8 : Int32)) (by decide) (pc' := 163) rfl ?_
            refine s_ishl H at_163 (pc' := 164) rfl ?_
            refine s_aload H at_164 rfl rfl (pc' := 166) rfl ?_
            refine s_iconst H at_166 (z := (3 : Int32)) (by decide) (pc' := 167) rfl ?_
            refine s_baload H at_167 (i := 0) rfl (x := ((256 : Nat).toInt32.toInt8.toInt32)) (by decide) (jn := 3) (by decide) rfl (pc' := 168) rfl ?_
            refine s_sipush H at_168 (z := (255 : Int32)) (by decide) (pc' := 171) rfl ?_
            refine s_iand H at_171 (pc' := 172) rfl ?_
            refine s_ior H at_172 (pc' := 173) rfl ?_
            refine s_iload H at_173 rfl (pc' := 175) rfl ?_
            refine s_icmp H at_175 (py := 180) (pc' := 178) q_eq (by decide) rfl (fun c175 => ?_) (fun c175 => ?_)
            · refine s_iload H at_180 rfl (pc' := 182) rfl ?_
              refine s_if H at_182 (py := 187) (pc' := 185) z_ne (by decide) rfl (fun c182 => ?_) (fun c182 => ?_)
              · refine s_aload H at_187 rfl rfl (pc' := 189) rfl ?_
                refine s_iconst H at_189 (z := (4 : Int32)) (by decide) (pc' := 190) rfl ?_
                refine s_baload H at_190 (i := 0) rfl (x := (i2.toInt8.toInt32)) (by decide) (jn := 4) (by decide) rfl (pc' := 191) rfl ?_
                refine s_sipush H at_191 (z := (255 : Int32)) (by decide) (pc' := 194) rfl ?_
                refine s_iand H at_194 (pc' := 195) rfl ?_
                refine s_iloadn H at_195 rfl (pc' := 196) rfl ?_
                refine s_sipush H at_196 (z := (255 : Int32)) (by decide) (pc' := 199) rfl ?_
                refine s_iand H at_199 (pc' := 200) rfl ?_
                refine s_icmp H at_200 (py := 205) (pc' := 203) q_eq (by decide) rfl (fun c200 => ?_) (fun c200 => ?_)
                · refine s_iload H at_205 rfl (pc' := 207) rfl ?_
                  refine s_iconst H at_207 (z := (3 : Int32)) (by decide) (pc' := 208) rfl ?_
                  refine s_icmp H at_208 (py := 218) (pc' := 211) q_le (by decide) rfl (fun c208 => ?_) (fun c208 => ?_)
                  · exact absurd c208 (by decide)
                  · refine s_iload H at_211 rfl (pc' := 213) rfl ?_
                    refine s_bipush H at_213 (z := (7 : Int32)) (by decide) (pc' := 215) rfl ?_
                    refine s_icmp H at_215 (py := 291) (pc' := 218) q_ne (by decide) rfl (fun c215 => ?_) (fun c215 => ?_)
                    · refine s_aload H at_291 rfl rfl (pc' := 293) rfl ?_
                      refine s_iconst H at_293 (z := (5 : Int32)) (by decide) (pc' := 294) rfl ?_
                      refine s_baload H at_294 (i := 0) rfl (x := d0) (by decide) (jn := 5) (by decide) e2 (pc' := 295) rfl ?_
                      refine s_iload H at_295 rfl (pc' := 297) rfl ?_
                      refine s_icmp H at_297 (py := 302) (pc' := 300) q_eq (by decide) rfl (fun c297 => ?_) (fun c297 => ?_)
                      · refine s_aload H at_302 rfl rfl (pc' := 304) rfl ?_
                        refine s_iconst H at_304 (z := (5 : Int32)) (by decide) (pc' := 305) rfl ?_
                        refine s_iload H at_305 rfl (pc' := 307) rfl ?_
                        refine s_iconst H at_307 (z := (2 : Int32)) (by decide) (pc' := 308) rfl ?_
                        refine s_idiv H at_308 (by decide) (pc' := 309) rfl ?_
                        refine s_iadd H at_309 (pc' := 310) rfl ?_
                        refine s_baload H at_310 (i := 0) rfl (x := d2) (by decide) (jn := 130) (by decide) e3 (pc' := 311) rfl ?_
                        refine s_iload H at_311 rfl (pc' := 313) rfl ?_
                        refine s_icmp H at_313 (py := 318) (pc' := 316) q_eq (by decide) rfl (fun c313 => ?_) (fun c313 => ?_)
                        · refine s_aload H at_318 rfl rfl (pc' := 320) rfl ?_
                          refine s_iconst H at_320 (z := (4 : Int32)) (by decide) (pc' := 321) rfl ?_
                          refine s_iload H at_321 rfl (pc' := 323) rfl ?_
                          refine s_iadd H at_323 (pc' := 324) rfl ?_
                          refine s_baload H at_324 (i := 0) rfl (x := d1) (by decide) (jn := 255) (by decide) e4 (pc' := 325) rfl ?_
                          refine s_iload H at_325 rfl (pc' := 327) rfl ?_
                          refine s_icmp H at_327 (py := 332) (pc' := 330) q_eq (by decide) rfl (fun c327 => ?_) (fun c327 => ?_)
                          · refine s_aload H at_332 rfl rfl (pc' := 334) rfl ?_
                            refine s_bipush H at_334 (z := (6 : Int32)) (by decide) (pc' := 336) rfl ?_
                            refine s_baload H at_336 (i := 0) rfl (x := (0 : Int32)) (by decide) (jn := 6) (by decide) e5 (pc' := 337) rfl ?_
                            refine s_if H at_337 (py := 342) (pc' := 340) z_eq (by decide) rfl (fun c337 => ?_) (fun c337 => ?_)
                            · refine s_aload H at_342 rfl rfl (pc' := 344) rfl ?_
                              refine s_iconst H at_344 (z := (3 : Int32)) (by decide) (pc' := 345) rfl ?_
                              refine s_iload H at_345 rfl (pc' := 347) rfl ?_
                              refine s_iadd H at_347 (pc' := 348) rfl ?_
                              refine s_baload H at_348 (i := 0) rfl (x := (0 : Int32)) (by decide) (jn := 254) (by decide) e6 (pc' := 349) rfl ?_
                              refine s_if H at_349 (py := 354) (pc' := 352) z_eq (by decide) rfl (fun c349 => ?_) (fun c349 => ?_)
                              · refine s_iconst H at_354 (z := (1 : Int32)) (by decide) (pc' := 355) rfl ?_
                                exact s_iret H at_355 rfl (by simp) (by decide) (by decide) (rfl)
                              · exact absurd c349 (by decide)
                            · exact absurd c337 (by decide)
                          · exact absurd rfl c327
                        · exact absurd rfl c313
                      · exact absurd rfl c297
                    · exact absurd c215 (by decide)
                · exact absurd (own_b255 i2) c200
              · exact absurd c182 (by decide)
            · exact absurd (own_len16 ⟨256, by decide⟩) c175
          · exact absurd (own_b255 i1) c148
        · exact absurd (by decide) c130
      · exact absurd c115 (by decide)
  · exact absurd c79 (by decide)
set_option maxRecDepth 65536 in
set_option maxHeartbeats 40000000 in
theorem s36_5_2 {Z : State} {k : Cx} {i0 i1 i2 i3 d0 d1 d2 : Int32} {i4 : Int64} (H : Ok Z k room_1 (LQ) x code maxLocals ret) (h0 : nar .byte d0 = d0) (h1 : nar .byte d1 = d1) (h2 : nar .byte d2 = d2) : Go Z k 0 0 ([] : Hp) 36 #[.val (.int i0), .val (.int i1), .val (.int i2), .val (.int i3), .val (.long i4), .second, .val (.int (2 : Int32)), .val (.int (5 : Int32)), .val (.int d0), .val (.int d1), .val (.int d2), .unset, .unset, .unset, .unset, .unset, .unset] [] := by
  refine s_iload H at_36 rfl (pc' := 38) rfl ?_
  refine s_iload H at_38 rfl (pc' := 40) rfl ?_
  refine s_iload H at_40 rfl (pc' := 42) rfl ?_
  refine s_iload H at_42 rfl (pc' := 44) rfl ?_
  refine s_static H (met_md5 H.tb d0 d1 d2 h0 h1 h2) at_44 (mem (i := 0) rfl) (mem (i := 1) rfl) (mem (i := 2) rfl) (mem (i := 3) rfl) (by decide) pd_1 rfl (rest := []) rfl rfl (by decide) (Nat.le_of_ble_eq_true rfl) (cn' := 1) (sn' := 251) rfl rfl (by decide) (by decide) (pc' := 47) rfl (fun _ _ hq => ?_)
  obtain ⟨da, dl, e1, e2, e3, e4, e5, e6, rfl, rfl⟩ := hq
  show Go Z k 1 251 ((da, ArI Z .byte dl) :: []) 47 #[.val (.int i0), .val (.int i1), .val (.int i2), .val (.int i3), .val (.long i4), .second, .val (.int (2 : Int32)), .val (.int (5 : Int32)), .val (.int d0), .val (.int d1), .val (.int d2), .unset, .unset, .unset, .unset, .unset, .unset] [(.ref da)]
  refine s_astore H at_47 (L' := #[.val (.int i0), .val (.int i1), .val (.int i2), .val (.int i3), .val (.long i4), .second, .val (.int (2 : Int32)), .val (.int (5 : Int32)), .val (.int d0), .val (.int d1), .val (.int d2), .val (.ref da), .unset, .unset, .unset, .unset, .unset]) rfl rfl (pc' := 49) rfl ?_
  refine s_aload H at_49 rfl rfl (pc' := 51) rfl ?_
  refine s_alenI H at_51 (i := 0) rfl (z := (251 : Int32)) (by rw [e1]; rfl) (pc' := 52) rfl ?_
  refine s_istore H at_52 (L' := fun z => #[.val (.int i0), .val (.int i1), .val (.int i2), .val (.int i3), .val (.long i4), .second, .val (.int (2 : Int32)), .val (.int (5 : Int32)), .val (.int d0), .val (.int d1), .val (.int d2), .val (.ref da), .val (.int z), .unset, .unset, .unset, .unset]) (fun _ => rfl) (pc' := 54) rfl (fun z0 hz => ?_)
  subst z0
  refine s_new H (C := "com/example/quintet/quintet/EapPacket") [("com/example/quintet/quintet/EapPacket", "code", "I", (.int (0 : Int32))), ("com/example/quintet/quintet/EapPacket", "identifier", "I", (.int (0 : Int32))), ("com/example/quintet/quintet/EapPacket", "type", "I", (.int (0 : Int32))), ("com/example/quintet/quintet/EapPacket", "data", "[B", .null)] at_54 (mem (i := 5) rfl) (mem (i := 6) rfl) (mem (i := 7) rfl) (allC ⟨Or.inr (mem (i := 20) rfl), .int, by decide, rfl⟩ (allC ⟨Or.inr (mem (i := 22) rfl), .int, by decide, rfl⟩ (allC ⟨Or.inr (mem (i := 24) rfl), .int, by decide, rfl⟩ (allC ⟨Or.inr (mem (i := 26) rfl), (.array .byte), by decide, rfl⟩ allN)))) (by decide) (cn' := 2) (sn' := 255) rfl rfl (by decide) (by decide) (pc' := 57) rfl (fun a1 => ?_)
  refine s_dup H at_57 rfl (pc' := 58) rfl ?_
  refine s_iload H at_58 rfl (pc' := 60) rfl ?_
  refine s_iloadn H at_60 rfl (pc' := 61) rfl ?_
  refine s_iloadn H at_61 rfl (pc' := 62) rfl ?_
  refine s_aload H at_62 rfl rfl (pc' := 64) rfl ?_
  refine s_init H (met_ei H.tb a1 da (2 : Int32) i1 i2) at_64 rfl (mem (i := 8) rfl) (mem (i := 9) rfl) (mem (i := 7) rfl) (mem (i := 10) rfl) (by decide) pd_2 rfl (rest := [(.ref a1)]) rfl rfl (by decide) (Nat.le_of_ble_eq_true rfl) (cn' := 2) (sn' := 255) rfl rfl (by decide) (by decide) (pc' := 67) rfl (fun _ _ hq => ?_)
  obtain ⟨rfl, rfl⟩ := hq
  show Go Z k 2 255 ((a1, Obj Z "com/example/quintet/quintet/EapPacket" [("com/example/quintet/quintet/EapPacket", "code", "I", (.int (2 : Int32))), ("com/example/quintet/quintet/EapPacket", "identifier", "I", (.int i1)), ("com/example/quintet/quintet/EapPacket", "type", "I", (.int i2)), ("com/example/quintet/quintet/EapPacket", "data", "[B", (.ref da))]) :: (da, ArI Z .byte dl) :: []) 67 #[.val (.int i0), .val (.int i1), .val (.int i2), .val (.int i3), .val (.long i4), .second, .val (.int (2 : Int32)), .val (.int (5 : Int32)), .val (.int d0), .val (.int d1), .val (.int d2), .val (.ref da), .val (.int (251 : Int32)), .unset, .unset, .unset, .unset] [(.ref a1)]
  refine s_astore H at_67 (L' := #[.val (.int i0), .val (.int i1), .val (.int i2), .val (.int i3), .val (.long i4), .second, .val (.int (2 : Int32)), .val (.int (5 : Int32)), .val (.int d0), .val (.int d1), .val (.int d2), .val (.ref da), .val (.int (251 : Int32)), .val (.ref a1), .unset, .unset, .unset]) rfl rfl (pc' := 69) rfl ?_
  refine s_aload H at_69 rfl rfl (pc' := 71) rfl ?_
  refine s_virtual H (met_byt H.tb a1 da (2 : Int32) i1 i2 dl (by decide) (by omega)) at_71 (i := 0) rfl (mem (i := 27) rfl) (mem (i := 28) rfl) (mem (i := 30) rfl) (mem (i := 29) rfl) (mem (i := 7) rfl) (mem (i := 31) rfl) (by decide) pd_5 rfl (rest := []) rfl rfl (by decide) (Nat.le_of_ble_eq_true rfl) (cn' := 3) (sn' := 560) rfl rfl (by decide) (by decide) (pc' := 74) rfl (fun _ _ hq => ?_)
  obtain ⟨ou, rfl, rfl⟩ := hq
  show Go Z k 3 560 ((ou, ArI Z .byte (((2 : Int32).toInt8.toInt32) :: (i1.toInt8.toInt32) :: ((((5 + dl.length).toInt32.toUInt32 >>> ((8 : Int32) &&& 31).toUInt32).toInt32).toInt8.toInt32) :: ((5 + dl.length).toInt32.toInt8.toInt32) :: (i2.toInt8.toInt32) :: dl)) :: (a1, Obj Z "com/example/quintet/quintet/EapPacket" [("com/example/quintet/quintet/EapPacket", "code", "I", (.int (2 : Int32))), ("com/example/quintet/quintet/EapPacket", "identifier", "I", (.int i1)), ("com/example/quintet/quintet/EapPacket", "type", "I", (.int i2)), ("com/example/quintet/quintet/EapPacket", "data", "[B", (.ref da))]) :: (da, ArI Z .byte dl) :: []) 74 #[.val (.int i0), .val (.int i1), .val (.int i2), .val (.int i3), .val (.long i4), .second, .val (.int (2 : Int32)), .val (.int (5 : Int32)), .val (.int d0), .val (.int d1), .val (.int d2), .val (.ref da), .val (.int (251 : Int32)), .val (.ref a1), .unset, .unset, .unset] [(.ref ou)]
  rw [e1]
  show Go Z k 3 560 ((ou, ArI Z .byte (((2 : Int32).toInt8.toInt32) :: (i1.toInt8.toInt32) :: ((((256 : Nat).toInt32.toUInt32 >>> ((8 : Int32) &&& 31).toUInt32).toInt32).toInt8.toInt32) :: ((256 : Nat).toInt32.toInt8.toInt32) :: (i2.toInt8.toInt32) :: dl)) :: (a1, Obj Z "com/example/quintet/quintet/EapPacket" [("com/example/quintet/quintet/EapPacket", "code", "I", (.int (2 : Int32))), ("com/example/quintet/quintet/EapPacket", "identifier", "I", (.int i1)), ("com/example/quintet/quintet/EapPacket", "type", "I", (.int i2)), ("com/example/quintet/quintet/EapPacket", "data", "[B", (.ref da))]) :: (da, ArI Z .byte dl) :: []) 74 #[.val (.int i0), .val (.int i1), .val (.int i2), .val (.int i3), .val (.long i4), .second, .val (.int (2 : Int32)), .val (.int (5 : Int32)), .val (.int d0), .val (.int d1), .val (.int d2), .val (.ref da), .val (.int (251 : Int32)), .val (.ref a1), .unset, .unset, .unset] [(.ref ou)]
  refine s_astore H at_74 (L' := #[.val (.int i0), .val (.int i1), .val (.int i2), .val (.int i3), .val (.long i4), .second, .val (.int (2 : Int32)), .val (.int (5 : Int32)), .val (.int d0), .val (.int d1), .val (.int d2), .val (.ref da), .val (.int (251 : Int32)), .val (.ref a1), .val (.ref ou), .unset, .unset]) rfl rfl (pc' := 76) rfl ?_
  refine s_iload H at_76 rfl (pc' := 78) rfl ?_
  refine s_iconst H at_78 (z := (1 : Int32)) (by decide) (pc' := 79) rfl ?_
  refine s_icmp H at_79 (py := 88) (pc' := 82) q_eq (by decide) rfl (fun c79 => ?_) (fun c79 => ?_)
  · exact absurd c79 (by decide)
  · refine s_iload H at_82 rfl (pc' := 84) rfl ?_
    refine s_iconst H at_84 (z := (2 : Int32)) (by decide) (pc' := 85) rfl ?_
    refine s_icmp H at_85 (py := 92) (pc' := 88) q_ne (by decide) rfl (fun c85 => ?_) (fun c85 => ?_)
    · exact absurd c85 (by decide)
    · refine s_iconst H at_88 (z := (1 : Int32)) (by decide) (pc' := 89) rfl ?_
      refine s_goto H at_89 (pc' := 93) (by decide) ?_
      refine s_istore H at_93 (L' := fun z => #[.val (.int i0), .val (.int i1), .val (.int i2), .val (.int i3), .val (.long i4), .second, .val (.int (2 : Int32)), .val (.int (5 : Int32)), .val (.int d0), .val (.int d1), .val (.int d2), .val (.ref da), .val (.int (251 : Int32)), .val (.ref a1), .val (.ref ou), .val (.int z), .unset]) (fun _ => rfl) (pc' := 95) rfl (fun z0 hz => ?_)
      subst z0
      refine s_iload H at_95 rfl (pc' := 97) rfl ?_
      refine s_if H at_97 (py := 107) (pc' := 100) z_eq (by decide) rfl (fun c97 => ?_) (fun c97 => ?_)
      · exact absurd c97 (by decide)
      · refine s_iconst H at_100 (z := (5 : Int32)) (by decide) (pc' := 101) rfl ?_
        refine s_iload H at_101 rfl (pc' := 103) rfl ?_
        refine s_iadd H at_103 (pc' := 104) rfl ?_
        refine s_goto H at_104 (pc' := 108) (by decide) ?_
        refine s_istore H at_108 (L' := fun z => #[.val (.int i0), .val (.int i1), .val (.int i2), .val (.int i3), .val (.long i4), .second, .val (.int (2 : Int32)), .val (.int (5 : Int32)), .val (.int d0), .val (.int d1), .val (.int d2), .val (.ref da), .val (.int (251 : Int32)), .val (.ref a1), .val (.ref ou), .val (.int (1 : Int32)), .val (.int z)]) (fun _ => rfl) (pc' := 110) rfl (fun z0 hz => ?_)
        subst z0
        refine s_aload H at_110 rfl rfl (pc' := 112) rfl ?_
        refine s_alenI H at_112 (i := 0) rfl (z := (256 : Int32)) (by simp only [List.length_cons, e1]; rfl) (pc' := 113) rfl ?_
        refine s_iload H at_113 rfl (pc' := 115) rfl ?_
        refine s_icmp H at_115 (py := 120) (pc' := 118) q_eq (by decide) rfl (fun c115 => ?_) (fun c115 => ?_)
        · refine s_aload H at_120 rfl rfl (pc' := 122) rfl ?_
          refine s_iconst H at_122 (z := (0 : Int32)) (by decide) (pc' := 123) rfl ?_
          refine s_baload H at_123 (i := 0) rfl (x := ((2 : Int32).toInt8.toInt32)) (by decide) (jn := 0) (by decide) rfl (pc' := 124) rfl ?_
          refine s_sipush H at_124 (z := (255 : Int32)) (by decide) (pc' := 127) rfl ?_
          refine s_iand H at_127 (pc' := 128) rfl ?_
          refine s_iload H at_128 rfl (pc' := 130) rfl ?_
          refine s_icmp H at_130 (py := 135) (pc' := 133) q_eq (by decide) rfl (fun c130 => ?_) (fun c130 => ?_)
          · refine s_aload H at_135 rfl rfl (pc' := 137) rfl ?_
            refine s_iconst H at_137 (z := (1 : Int32)) (by decide) (pc' := 138) rfl ?_
            refine s_baload H at_138 (i := 0) rfl (x := (i1.toInt8.toInt32)) (by decide) (jn := 1) (by decide) rfl (pc' := 139) rfl ?_
            refine s_sipush H at_139 (z := (255 : Int32)) (by decide) (pc' := 142) rfl ?_
            refine s_iand H at_142 (pc' := 143) rfl ?_
            refine s_iloadn H at_143 rfl (pc' := 144) rfl ?_
            refine s_sipush H at_144 (z := (255 : Int32)) (by decide) (pc' := 147) rfl ?_
            refine s_iand H at_147 (pc' := 148) rfl ?_
            refine s_icmp H at_148 (py := 153) (pc' := 151) q_eq (by decide) rfl (fun c148 => ?_) (fun c148 => ?_)
            · refine s_aload H at_153 rfl rfl (pc' := 155) rfl ?_
              refine s_iconst H at_155 (z := (2 : Int32)) (by decide) (pc' := 156) rfl ?_
              refine s_baload H at_156 (i := 0) rfl (x := ((((256 : Nat).toInt32.toUInt32 >>> ((8 : Int32) &&& 31).toUInt32).toInt32).toInt8.toInt32)) (by decide) (jn := 2) (by decide) rfl (pc' := 157) rfl ?_
              refine s_sipush H at_157 (z := (255 : Int32)) (by decide) (pc' := 160) rfl ?_
              refine s_iand H at_160 (pc' := 161) rfl ?_
              refine s_bipush H at_161 (z := (8 : Int32)) (by decide) (pc' := 163) rfl ?_
              refine s_ishl H at_163 (pc' := 164) rfl ?_
              refine s_aload H at_164 rfl rfl (pc' := 166) rfl ?_
              refine s_iconst H at_166 (z := (3 : Int32)) (by decide) (pc' := 167) rfl ?_
              refine s_baload H at_167 (i := 0) rfl (x := ((256 : Nat).toInt32.toInt8.toInt32)) (by decide) (jn := 3) (by decide) rfl (pc' := 168) rfl ?_
              refine s_sipush H at_168 (z := (255 : Int32)) (by decide) (pc' := 171) rfl ?_
              refine s_iand H at_171 (pc' := 172) rfl ?_
              refine s_ior H at_172 (pc' := 173) rfl ?_
              refine s_iload H at_173 rfl (pc' := 175) rfl ?_
              refine s_icmp H at_175 (py := 180) (pc' := 178) q_eq (by decide) rfl (fun c175 => ?_) (fun c175 => ?_)
              · refine s_iload H at_180 rfl (pc' := 182) rfl ?_
                refine s_if H at_182 (py := 187) (pc' := 185) z_ne (by decide) rfl (fun c182 => ?_) (fun c182 => ?_)
                · refine s_aload H at_187 rfl rfl (pc' := 189) rfl ?_
                  refine s_iconst H at_189 (z := (4 : Int32)) (by decide) (pc' := 190) rfl ?_
                  refine s_baload H at_190 (i := 0) rfl (x := (i2.toInt8.toInt32)) (by decide) (jn := 4) (by decide) rfl (pc' := 191) rfl ?_
                  refine s_sipush H at_191 (z := (255 : Int32)) (by decide) (pc' := 194) rfl ?_
                  refine s_iand H at_194 (pc' := 195) rfl ?_
                  refine s_iloadn H at_195 rfl (pc' := 196) rfl ?_
                  refine s_sipush H at_196 (z := (255 : Int32)) (by decide) (pc' := 199) rfl ?_
                  refine s_iand H at_199 (pc' := 200) rfl ?_
                  refine s_icmp H at_200 (py := 205) (pc' := 203) q_eq (by decide) rfl (fun c200 => ?_) (fun c200 => ?_)
                  · refine s_iload H at_205 rfl (pc' := 207) rfl ?_
                    refine s_iconst H at_207 (z := (3 : Int32)) (by decide) (pc' := 208) rfl ?_
                    refine s_icmp H at_208 (py := 218) (pc' := 211) q_le (by decide) rfl (fun c208 => ?_) (fun c208 => ?_)
                    · exact absurd c208 (by decide)
                    · refine s_iload H at_211 rfl (pc' := 213) rfl ?_
                      refine s_bipush H at_213 (z := (7 : Int32)) (by decide) (pc' := 215) rfl ?_
                      refine s_icmp H at_215 (py := 291) (pc' := 218) q_ne (by decide) rfl (fun c215 => ?_) (fun c215 => ?_)
                      · refine s_aload H at_291 rfl rfl (pc' := 293) rfl ?_
                        refine s_iconst H at_293 (z := (5 : Int32)) (by decide) (pc' := 294) rfl ?_
                        refine s_baload H at_294 (i := 0) rfl (x := d0) (by decide) (jn := 5) (by decide) e2 (pc' := 295) rfl ?_
                        refine s_iload H at_295 rfl (pc' := 297) rfl ?_
                        refine s_icmp H at_297 (py := 302) (pc' := 300) q_eq (by decide) rfl (fun c297 => ?_) (fun c297 => ?_)
                        · refine s_aload H at_302 rfl rfl (pc' := 304) rfl ?_
                          refine s_iconst H at_304 (z := (5 : Int32)) (by decide) (pc' := 305) rfl ?_
                          refine s_iload H at_305 rfl (pc' := 307) rfl ?_
                          refine s_iconst H at_307 (z := (2 : Int32)) (by decide) (pc' := 308) rfl ?_
                          refine s_idiv H at_308 (by decide) (pc' := 309) rfl ?_
                          refine s_iadd H at_309 (pc' := 310) rfl ?_
                          refine s_baload H at_310 (i := 0) rfl (x := d2) (by decide) (jn := 130) (by decide) e3 (pc' := 311) rfl ?_
                          refine s_iload H at_311 rfl (pc' := 313) rfl ?_
                          refine s_icmp H at_313 (py := 318) (pc' := 316) q_eq (by decide) rfl (fun c313 => ?_) (fun c313 => ?_)
                          · refine s_aload H at_318 rfl rfl (pc' := 320) rfl ?_
                            refine s_iconst H at_320 (z := (4 : Int32)) (by decide) (pc' := 321) rfl ?_
                            refine s_iload H at_321 rfl (pc' := 323) rfl ?_
                            refine s_iadd H at_323 (pc' := 324) rfl ?_
                            refine s_baload H at_324 (i := 0) rfl (x := d1) (by decide) (jn := 255) (by decide) e4 (pc' := 325) rfl ?_
                            refine s_iload H at_325 rfl (pc' := 327) rfl ?_
                            refine s_icmp H at_327 (py := 332) (pc' := 330) q_eq (by decide) rfl (fun c327 => ?_) (fun c327 => ?_)
                            · refine s_aload H at_332 rfl rfl (pc' := 334) rfl ?_
                              refine s_bipush H at_334 (z := (6 : Int32)) (by decide) (pc' := 336) rfl ?_
                              refine s_baload H at_336 (i := 0) rfl (x := (0 : Int32)) (by decide) (jn := 6) (by decide) e5 (pc' := 337) rfl ?_
                              refine s_if H at_337 (py := 342) (pc' := 340) z_eq (by decide) rfl (fun c337 => ?_) (fun c337 => ?_)
                              · refine s_aload H at_342 rfl rfl (pc' := 344) rfl ?_
                                refine s_iconst H at_344 (z := (3 : Int32)) (by decide) (pc' := 345) rfl ?_
                                refine s_iload H at_345 rfl (pc' := 347) rfl ?_
                                refine s_iadd H at_347 (pc' := 348) rfl ?_
                                refine s_baload H at_348 (i := 0) rfl (x := (0 : Int32)) (by decide) (jn := 254) (by decide) e6 (pc' := 349) rfl ?_
                                refine s_if H at_349 (py := 354) (pc' := 352) z_eq (by decide) rfl (fun c349 => ?_) (fun c349 => ?_)
                                · refine s_iconst H at_354 (z := (1 : Int32)) (by decide) (pc' := 355) rfl ?_
                                  exact s_iret H at_355 rfl (by simp) (by decide) (by decide) (rfl)
                                · exact absurd c349 (by decide)
                              · exact absurd c337 (by decide)
                            · exact absurd rfl c327
                          · exact absurd rfl c313
                        · exact absurd rfl c297
                      · exact absurd c215 (by decide)
                  · exact absurd (own_b255 i2) c200
                · exact absurd c182 (by decide)
              · exact absurd (own_len16 ⟨256, by decide⟩) c175
            · exact absurd (own_b255 i1) c148
          · exact absurd (by decide) c130
        · exact absurd c115 (by decide)
set_option maxRecDepth 65536 in
set_option maxHeartbeats 40000000 in
theorem s36_5_x {Z : State} {k : Cx} {i0 i1 i2 i3 d0 d1 d2 cc : Int32} {i4 : Int64} (H : Ok Z k room_1 (LQ) x code maxLocals ret) (h0 : nar .byte d0 = d0) (h1 : nar .byte d1 = d1) (h2 : nar .byte d2 = d2) (hc : ¬ (cc = 1 ∨ cc = 2)) (hc0 : 0 ≤ cc.toInt) (hc7 : cc.toInt ≤ 7) : Go Z k 0 0 ([] : Hp) 36 #[.val (.int i0), .val (.int i1), .val (.int i2), .val (.int i3), .val (.long i4), .second, .val (.int cc), .val (.int (5 : Int32)), .val (.int d0), .val (.int d1), .val (.int d2), .unset, .unset, .unset, .unset, .unset, .unset] [] := by
  refine s_iload H at_36 rfl (pc' := 38) rfl ?_
  refine s_iload H at_38 rfl (pc' := 40) rfl ?_
  refine s_iload H at_40 rfl (pc' := 42) rfl ?_
  refine s_iload H at_42 rfl (pc' := 44) rfl ?_
  refine s_static H (met_md5 H.tb d0 d1 d2 h0 h1 h2) at_44 (mem (i := 0) rfl) (mem (i := 1) rfl) (mem (i := 2) rfl) (mem (i := 3) rfl) (by decide) pd_1 rfl (rest := []) rfl rfl (by decide) (Nat.le_of_ble_eq_true rfl) (cn' := 1) (sn' := 251) rfl rfl (by decide) (by decide) (pc' := 47) rfl (fun _ _ hq => ?_)
  obtain ⟨da, dl, e1, e2, e3, e4, e5, e6, rfl, rfl⟩ := hq
  show Go Z k 1 251 ((da, ArI Z .byte dl) :: []) 47 #[.val (.int i0), .val (.int i1), .val (.int i2), .val (.int i3), .val (.long i4), .second, .val (.int cc), .val (.int (5 : Int32)), .val (.int d0), .val (.int d1), .val (.int d2), .unset, .unset, .unset, .unset, .unset, .unset] [(.ref da)]
  refine s_astore H at_47 (L' := #[.val (.int i0), .val (.int i1), .val (.int i2), .val (.int i3), .val (.long i4), .second, .val (.int cc), .val (.int (5 : Int32)), .val (.int d0), .val (.int d1), .val (.int d2), .val (.ref da), .unset, .unset, .unset, .unset, .unset]) rfl rfl (pc' := 49) rfl ?_
  refine s_aload H at_49 rfl rfl (pc' := 51) rfl ?_
  refine s_alenI H at_51 (i := 0) rfl (z := (251 : Int32)) (by rw [e1]; rfl) (pc' := 52) rfl ?_
  refine s_istore H at_52 (L' := fun z => #[.val (.int i0), .val (.int i1), .val (.int i2), .val (.int i3), .val (.long i4), .second, .val (.int cc), .val (.int (5 : Int32)), .val (.int d0), .val (.int d1), .val (.int d2), .val (.ref da), .val (.int z), .unset, .unset, .unset, .unset]) (fun _ => rfl) (pc' := 54) rfl (fun z0 hz => ?_)
  subst z0
  refine s_new H (C := "com/example/quintet/quintet/EapPacket") [("com/example/quintet/quintet/EapPacket", "code", "I", (.int (0 : Int32))), ("com/example/quintet/quintet/EapPacket", "identifier", "I", (.int (0 : Int32))), ("com/example/quintet/quintet/EapPacket", "type", "I", (.int (0 : Int32))), ("com/example/quintet/quintet/EapPacket", "data", "[B", .null)] at_54 (mem (i := 5) rfl) (mem (i := 6) rfl) (mem (i := 7) rfl) (allC ⟨Or.inr (mem (i := 20) rfl), .int, by decide, rfl⟩ (allC ⟨Or.inr (mem (i := 22) rfl), .int, by decide, rfl⟩ (allC ⟨Or.inr (mem (i := 24) rfl), .int, by decide, rfl⟩ (allC ⟨Or.inr (mem (i := 26) rfl), (.array .byte), by decide, rfl⟩ allN)))) (by decide) (cn' := 2) (sn' := 255) rfl rfl (by decide) (by decide) (pc' := 57) rfl (fun a1 => ?_)
  refine s_dup H at_57 rfl (pc' := 58) rfl ?_
  refine s_iload H at_58 rfl (pc' := 60) rfl ?_
  refine s_iloadn H at_60 rfl (pc' := 61) rfl ?_
  refine s_iloadn H at_61 rfl (pc' := 62) rfl ?_
  refine s_aload H at_62 rfl rfl (pc' := 64) rfl ?_
  refine s_init H (met_ei H.tb a1 da cc i1 i2) at_64 rfl (mem (i := 8) rfl) (mem (i := 9) rfl) (mem (i := 7) rfl) (mem (i := 10) rfl) (by decide) pd_2 rfl (rest := [(.ref a1)]) rfl rfl (by decide) (Nat.le_of_ble_eq_true rfl) (cn' := 2) (sn' := 255) rfl rfl (by decide) (by decide) (pc' := 67) rfl (fun _ _ hq => ?_)
  obtain ⟨rfl, rfl⟩ := hq
  show Go Z k 2 255 ((a1, Obj Z "com/example/quintet/quintet/EapPacket" [("com/example/quintet/quintet/EapPacket", "code", "I", (.int cc)), ("com/example/quintet/quintet/EapPacket", "identifier", "I", (.int i1)), ("com/example/quintet/quintet/EapPacket", "type", "I", (.int i2)), ("com/example/quintet/quintet/EapPacket", "data", "[B", (.ref da))]) :: (da, ArI Z .byte dl) :: []) 67 #[.val (.int i0), .val (.int i1), .val (.int i2), .val (.int i3), .val (.long i4), .second, .val (.int cc), .val (.int (5 : Int32)), .val (.int d0), .val (.int d1), .val (.int d2), .val (.ref da), .val (.int (251 : Int32)), .unset, .unset, .unset, .unset] [(.ref a1)]
  refine s_astore H at_67 (L' := #[.val (.int i0), .val (.int i1), .val (.int i2), .val (.int i3), .val (.long i4), .second, .val (.int cc), .val (.int (5 : Int32)), .val (.int d0), .val (.int d1), .val (.int d2), .val (.ref da), .val (.int (251 : Int32)), .val (.ref a1), .unset, .unset, .unset]) rfl rfl (pc' := 69) rfl ?_
  refine s_aload H at_69 rfl rfl (pc' := 71) rfl ?_
  refine s_virtual H (met_byf H.tb a1 da cc i1 i2 dl hc) at_71 (i := 0) rfl (mem (i := 27) rfl) (mem (i := 28) rfl) (mem (i := 30) rfl) (mem (i := 29) rfl) (mem (i := 7) rfl) (mem (i := 31) rfl) (by decide) pd_5 rfl (rest := []) rfl rfl (by decide) (Nat.le_of_ble_eq_true rfl) (cn' := 3) (sn' := 259) rfl rfl (by decide) (by decide) (pc' := 74) rfl (fun _ _ hq => ?_)
  obtain ⟨ou, rfl, rfl⟩ := hq
  show Go Z k 3 259 ((ou, ArI Z .byte ([(cc.toInt8.toInt32), (i1.toInt8.toInt32), ((((4 : Int32).toUInt32 >>> ((8 : Int32) &&& 31).toUInt32).toInt32).toInt8.toInt32), ((4 : Int32).toInt8.toInt32)] : List Int32)) :: (a1, Obj Z "com/example/quintet/quintet/EapPacket" [("com/example/quintet/quintet/EapPacket", "code", "I", (.int cc)), ("com/example/quintet/quintet/EapPacket", "identifier", "I", (.int i1)), ("com/example/quintet/quintet/EapPacket", "type", "I", (.int i2)), ("com/example/quintet/quintet/EapPacket", "data", "[B", (.ref da))]) :: (da, ArI Z .byte dl) :: []) 74 #[.val (.int i0), .val (.int i1), .val (.int i2), .val (.int i3), .val (.long i4), .second, .val (.int cc), .val (.int (5 : Int32)), .val (.int d0), .val (.int d1), .val (.int d2), .val (.ref da), .val (.int (251 : Int32)), .val (.ref a1), .unset, .unset, .unset] [(.ref ou)]
  refine s_astore H at_74 (L' := #[.val (.int i0), .val (.int i1), .val (.int i2), .val (.int i3), .val (.long i4), .second, .val (.int cc), .val (.int (5 : Int32)), .val (.int d0), .val (.int d1), .val (.int d2), .val (.ref da), .val (.int (251 : Int32)), .val (.ref a1), .val (.ref ou), .unset, .unset]) rfl rfl (pc' := 76) rfl ?_
  refine s_iload H at_76 rfl (pc' := 78) rfl ?_
  refine s_iconst H at_78 (z := (1 : Int32)) (by decide) (pc' := 79) rfl ?_
  refine s_icmp H at_79 (py := 88) (pc' := 82) q_eq (by decide) rfl (fun c79 => ?_) (fun c79 => ?_)
  · exact absurd (Or.inl c79) hc
  · refine s_iload H at_82 rfl (pc' := 84) rfl ?_
    refine s_iconst H at_84 (z := (2 : Int32)) (by decide) (pc' := 85) rfl ?_
    refine s_icmp H at_85 (py := 92) (pc' := 88) q_ne (by decide) rfl (fun c85 => ?_) (fun c85 => ?_)
    · refine s_iconst H at_92 (z := (0 : Int32)) (by decide) (pc' := 93) rfl ?_
      refine s_istore H at_93 (L' := fun z => #[.val (.int i0), .val (.int i1), .val (.int i2), .val (.int i3), .val (.long i4), .second, .val (.int cc), .val (.int (5 : Int32)), .val (.int d0), .val (.int d1), .val (.int d2), .val (.ref da), .val (.int (251 : Int32)), .val (.ref a1), .val (.ref ou), .val (.int z), .unset]) (fun _ => rfl) (pc' := 95) rfl (fun z0 hz => ?_)
      subst z0
      refine s_iload H at_95 rfl (pc' := 97) rfl ?_
      refine s_if H at_97 (py := 107) (pc' := 100) z_eq (by decide) rfl (fun c97 => ?_) (fun c97 => ?_)
      · refine s_iconst H at_107 (z := (4 : Int32)) (by decide) (pc' := 108) rfl ?_
        refine s_istore H at_108 (L' := fun z => #[.val (.int i0), .val (.int i1), .val (.int i2), .val (.int i3), .val (.long i4), .second, .val (.int cc), .val (.int (5 : Int32)), .val (.int d0), .val (.int d1), .val (.int d2), .val (.ref da), .val (.int (251 : Int32)), .val (.ref a1), .val (.ref ou), .val (.int (0 : Int32)), .val (.int z)]) (fun _ => rfl) (pc' := 110) rfl (fun z0 hz => ?_)
        subst z0
        refine s_aload H at_110 rfl rfl (pc' := 112) rfl ?_
        refine s_alenI H at_112 (i := 0) rfl (z := (4 : Int32)) rfl (pc' := 113) rfl ?_
        refine s_iload H at_113 rfl (pc' := 115) rfl ?_
        refine s_icmp H at_115 (py := 120) (pc' := 118) q_eq (by decide) rfl (fun c115 => ?_) (fun c115 => ?_)
        · refine s_aload H at_120 rfl rfl (pc' := 122) rfl ?_
          refine s_iconst H at_122 (z := (0 : Int32)) (by decide) (pc' := 123) rfl ?_
          refine s_baload H at_123 (i := 0) rfl (x := (cc.toInt8.toInt32)) (by decide) (jn := 0) (by decide) rfl (pc' := 124) rfl ?_
          refine s_sipush H at_124 (z := (255 : Int32)) (by decide) (pc' := 127) rfl ?_
          refine s_iand H at_127 (pc' := 128) rfl ?_
          refine s_iload H at_128 rfl (pc' := 130) rfl ?_
          refine s_icmp H at_130 (py := 135) (pc' := 133) q_eq (by decide) rfl (fun c130 => ?_) (fun c130 => ?_)
          · refine s_aload H at_135 rfl rfl (pc' := 137) rfl ?_
            refine s_iconst H at_137 (z := (1 : Int32)) (by decide) (pc' := 138) rfl ?_
            refine s_baload H at_138 (i := 0) rfl (x := (i1.toInt8.toInt32)) (by decide) (jn := 1) (by decide) rfl (pc' := 139) rfl ?_
            refine s_sipush H at_139 (z := (255 : Int32)) (by decide) (pc' := 142) rfl ?_
            refine s_iand H at_142 (pc' := 143) rfl ?_
            refine s_iloadn H at_143 rfl (pc' := 144) rfl ?_
            refine s_sipush H at_144 (z := (255 : Int32)) (by decide) (pc' := 147) rfl ?_
            refine s_iand H at_147 (pc' := 148) rfl ?_
            refine s_icmp H at_148 (py := 153) (pc' := 151) q_eq (by decide) rfl (fun c148 => ?_) (fun c148 => ?_)
            · refine s_aload H at_153 rfl rfl (pc' := 155) rfl ?_
              refine s_iconst H at_155 (z := (2 : Int32)) (by decide) (pc' := 156) rfl ?_
              refine s_baload H at_156 (i := 0) rfl (x := ((((4 : Int32).toUInt32 >>> ((8 : Int32) &&& 31).toUInt32).toInt32).toInt8.toInt32)) (by decide) (jn := 2) (by decide) rfl (pc' := 157) rfl ?_
              refine s_sipush H at_157 (z := (255 : Int32)) (by decide) (pc' := 160) rfl ?_
              refine s_iand H at_160 (pc' := 161) rfl ?_
              refine s_bipush H at_161 (z := (8 : Int32)) (by decide) (pc' := 163) rfl ?_
              refine s_ishl H at_163 (pc' := 164) rfl ?_
              refine s_aload H at_164 rfl rfl (pc' := 166) rfl ?_
              refine s_iconst H at_166 (z := (3 : Int32)) (by decide) (pc' := 167) rfl ?_
              refine s_baload H at_167 (i := 0) rfl (x := ((4 : Int32).toInt8.toInt32)) (by decide) (jn := 3) (by decide) rfl (pc' := 168) rfl ?_
              refine s_sipush H at_168 (z := (255 : Int32)) (by decide) (pc' := 171) rfl ?_
              refine s_iand H at_171 (pc' := 172) rfl ?_
              refine s_ior H at_172 (pc' := 173) rfl ?_
              refine s_iload H at_173 rfl (pc' := 175) rfl ?_
              refine s_icmp H at_175 (py := 180) (pc' := 178) q_eq (by decide) rfl (fun c175 => ?_) (fun c175 => ?_)
              · refine s_iload H at_180 rfl (pc' := 182) rfl ?_
                refine s_if H at_182 (py := 187) (pc' := 185) z_ne (by decide) rfl (fun c182 => ?_) (fun c182 => ?_)
                · exact absurd c182 (by decide)
                · refine s_iconst H at_185 (z := (1 : Int32)) (by decide) (pc' := 186) rfl ?_
                  exact s_iret H at_186 rfl (by simp) (by decide) (by decide) (rfl)
              · exact absurd (by decide) c175
            · exact absurd (own_b255 i1) c148
          · exact absurd (own_code hc0 hc7) c130
        · exact absurd c115 (by decide)
      · exact absurd c97 (by decide)
    · exact absurd (Or.inr (Classical.not_not.mp c85)) hc
set_option maxRecDepth 65536 in
set_option maxHeartbeats 40000000 in
theorem s36_6_1 {Z : State} {k : Cx} {i0 i1 i2 i3 d0 d1 d2 : Int32} {i4 : Int64} (H : Ok Z k room_1 (LQ) x code maxLocals ret) (h0 : nar .byte d0 = d0) (h1 : nar .byte d1 = d1) (h2 : nar .byte d2 = d2) : Go Z k 0 0 ([] : Hp) 36 #[.val (.int i0), .val (.int i1), .val (.int i2), .val (.int i3), .val (.long i4), .second, .val (.int (1 : Int32)), .val (.int (6 : Int32)), .val (.int d0), .val (.int d1), .val (.int d2), .unset, .unset, .unset, .unset, .unset, .unset] [] := by
  refine s_iload H at_36 rfl (pc' := 38) rfl ?_
  refine s_iload H at_38 rfl (pc' := 40) rfl ?_
  refine s_iload H at_40 rfl (pc' := 42) rfl ?_
  refine s_iload H at_42 rfl (pc' := 44) rfl ?_
  refine s_static H (met_md6 H.tb d0 d1 d2 h0 h1 h2) at_44 (mem (i := 0) rfl) (mem (i := 1) rfl) (mem (i := 2) rfl) (mem (i := 3) rfl) (by decide) pd_1 rfl (rest := []) rfl rfl (by decide) (Nat.le_of_ble_eq_true rfl) (cn' := 1) (sn' := 300) rfl rfl (by decide) (by decide) (pc' := 47) rfl (fun _ _ hq => ?_)
  obtain ⟨da, dl, e1, e2, e3, e4, e5, e6, rfl, rfl⟩ := hq
  show Go Z k 1 300 ((da, ArI Z .byte dl) :: []) 47 #[.val (.int i0), .val (.int i1), .val (.int i2), .val (.int i3), .val (.long i4), .second, .val (.int (1 : Int32)), .val (.int (6 : Int32)), .val (.int d0), .val (.int d1), .val (.int d2), .unset, .unset, .unset, .unset, .unset, .unset] [(.ref da)]
  refine s_astore H at_47 (L' := #[.val (.int i0), .val (.int i1), .val (.int i2), .val (.int i3), .val (.long i4), .second, .val (.int (1 : Int32)), .val (.int (6 : Int32)), .val (.int d0), .val (.int d1), .val (.int d2), .val (.ref da), .unset, .unset, .unset, .unset, .unset]) rfl rfl (pc' := 49) rfl ?_
  refine s_aload H at_49 rfl rfl (pc' := 51) rfl ?_
  refine s_alenI H at_51 (i := 0) rfl (z := (300 : Int32)) (by rw [e1]; rfl) (pc' := 52) rfl ?_
  refine s_istore H at_52 (L' := fun z => #[.val (.int i0), .val (.int i1), .val (.int i2), .val (.int i3), .val (.long i4), .second, .val (.int (1 : Int32)), .val (.int (6 : Int32)), .val (.int d0), .val (.int d1), .val (.int d2), .val (.ref da), .val (.int z), .unset, .unset, .unset, .unset]) (fun _ => rfl) (pc' := 54) rfl (fun z0 hz => ?_)
  subst z0
  refine s_new H (C := "com/example/quintet/quintet/EapPacket") [("com/example/quintet/quintet/EapPacket", "code", "I", (.int (0 : Int32))), ("com/example/quintet/quintet/EapPacket", "identifier", "I", (.int (0 : Int32))), ("com/example/quintet/quintet/EapPacket", "type", "I", (.int (0 : Int32))), ("com/example/quintet/quintet/EapPacket", "data", "[B", .null)] at_54 (mem (i := 5) rfl) (mem (i := 6) rfl) (mem (i := 7) rfl) (allC ⟨Or.inr (mem (i := 20) rfl), .int, by decide, rfl⟩ (allC ⟨Or.inr (mem (i := 22) rfl), .int, by decide, rfl⟩ (allC ⟨Or.inr (mem (i := 24) rfl), .int, by decide, rfl⟩ (allC ⟨Or.inr (mem (i := 26) rfl), (.array .byte), by decide, rfl⟩ allN)))) (by decide) (cn' := 2) (sn' := 304) rfl rfl (by decide) (by decide) (pc' := 57) rfl (fun a1 => ?_)
  refine s_dup H at_57 rfl (pc' := 58) rfl ?_
  refine s_iload H at_58 rfl (pc' := 60) rfl ?_
  refine s_iloadn H at_60 rfl (pc' := 61) rfl ?_
  refine s_iloadn H at_61 rfl (pc' := 62) rfl ?_
  refine s_aload H at_62 rfl rfl (pc' := 64) rfl ?_
  refine s_init H (met_ei H.tb a1 da (1 : Int32) i1 i2) at_64 rfl (mem (i := 8) rfl) (mem (i := 9) rfl) (mem (i := 7) rfl) (mem (i := 10) rfl) (by decide) pd_2 rfl (rest := [(.ref a1)]) rfl rfl (by decide) (Nat.le_of_ble_eq_true rfl) (cn' := 2) (sn' := 304) rfl rfl (by decide) (by decide) (pc' := 67) rfl (fun _ _ hq => ?_)
  obtain ⟨rfl, rfl⟩ := hq
  show Go Z k 2 304 ((a1, Obj Z "com/example/quintet/quintet/EapPacket" [("com/example/quintet/quintet/EapPacket", "code", "I", (.int (1 : Int32))), ("com/example/quintet/quintet/EapPacket", "identifier", "I", (.int i1)), ("com/example/quintet/quintet/EapPacket", "type", "I", (.int i2)), ("com/example/quintet/quintet/EapPacket", "data", "[B", (.ref da))]) :: (da, ArI Z .byte dl) :: []) 67 #[.val (.int i0), .val (.int i1), .val (.int i2), .val (.int i3), .val (.long i4), .second, .val (.int (1 : Int32)), .val (.int (6 : Int32)), .val (.int d0), .val (.int d1), .val (.int d2), .val (.ref da), .val (.int (300 : Int32)), .unset, .unset, .unset, .unset] [(.ref a1)]
  refine s_astore H at_67 (L' := #[.val (.int i0), .val (.int i1), .val (.int i2), .val (.int i3), .val (.long i4), .second, .val (.int (1 : Int32)), .val (.int (6 : Int32)), .val (.int d0), .val (.int d1), .val (.int d2), .val (.ref da), .val (.int (300 : Int32)), .val (.ref a1), .unset, .unset, .unset]) rfl rfl (pc' := 69) rfl ?_
  refine s_aload H at_69 rfl rfl (pc' := 71) rfl ?_
  refine s_virtual H (met_byt H.tb a1 da (1 : Int32) i1 i2 dl (by decide) (by omega)) at_71 (i := 0) rfl (mem (i := 27) rfl) (mem (i := 28) rfl) (mem (i := 30) rfl) (mem (i := 29) rfl) (mem (i := 7) rfl) (mem (i := 31) rfl) (by decide) pd_5 rfl (rest := []) rfl rfl (by decide) (Nat.le_of_ble_eq_true rfl) (cn' := 3) (sn' := 609) rfl rfl (by decide) (by decide) (pc' := 74) rfl (fun _ _ hq => ?_)
  obtain ⟨ou, rfl, rfl⟩ := hq
  show Go Z k 3 609 ((ou, ArI Z .byte (((1 : Int32).toInt8.toInt32) :: (i1.toInt8.toInt32) :: ((((5 + dl.length).toInt32.toUInt32 >>> ((8 : Int32) &&& 31).toUInt32).toInt32).toInt8.toInt32) :: ((5 + dl.length).toInt32.toInt8.toInt32) :: (i2.toInt8.toInt32) :: dl)) :: (a1, Obj Z "com/example/quintet/quintet/EapPacket" [("com/example/quintet/quintet/EapPacket", "code", "I", (.int (1 : Int32))), ("com/example/quintet/quintet/EapPacket", "identifier", "I", (.int i1)), ("com/example/quintet/quintet/EapPacket", "type", "I", (.int i2)), ("com/example/quintet/quintet/EapPacket", "data", "[B", (.ref da))]) :: (da, ArI Z .byte dl) :: []) 74 #[.val (.int i0), .val (.int i1), .val (.int i2), .val (.int i3), .val (.long i4), .second, .val (.int (1 : Int32)), .val (.int (6 : Int32)), .val (.int d0), .val (.int d1), .val (.int d2), .val (.ref da), .val (.int (300 : Int32)), .val (.ref a1), .unset, .unset, .unset] [(.ref ou)]
  rw [e1]
  show Go Z k 3 609 ((ou, ArI Z .byte (((1 : Int32).toInt8.toInt32) :: (i1.toInt8.toInt32) :: ((((305 : Nat).toInt32.toUInt32 >>> ((8 : Int32) &&& 31).toUInt32).toInt32).toInt8.toInt32) :: ((305 : Nat).toInt32.toInt8.toInt32) :: (i2.toInt8.toInt32) :: dl)) :: (a1, Obj Z "com/example/quintet/quintet/EapPacket" [("com/example/quintet/quintet/EapPacket", "code", "I", (.int (1 : Int32))), ("com/example/quintet/quintet/EapPacket", "identifier", "I", (.int i1)), ("com/example/quintet/quintet/EapPacket", "type", "I", (.int i2)), ("com/example/quintet/quintet/EapPacket", "data", "[B", (.ref da))]) :: (da, ArI Z .byte dl) :: []) 74 #[.val (.int i0), .val (.int i1), .val (.int i2), .val (.int i3), .val (.long i4), .second, .val (.int (1 : Int32)), .val (.int (6 : Int32)), .val (.int d0), .val (.int d1), .val (.int d2), .val (.ref da), .val (.int (300 : Int32)), .val (.ref a1), .unset, .unset, .unset] [(.ref ou)]
  refine s_astore H at_74 (L' := #[.val (.int i0), .val (.int i1), .val (.int i2), .val (.int i3), .val (.long i4), .second, .val (.int (1 : Int32)), .val (.int (6 : Int32)), .val (.int d0), .val (.int d1), .val (.int d2), .val (.ref da), .val (.int (300 : Int32)), .val (.ref a1), .val (.ref ou), .unset, .unset]) rfl rfl (pc' := 76) rfl ?_
  refine s_iload H at_76 rfl (pc' := 78) rfl ?_
  refine s_iconst H at_78 (z := (1 : Int32)) (by decide) (pc' := 79) rfl ?_
  refine s_icmp H at_79 (py := 88) (pc' := 82) q_eq (by decide) rfl (fun c79 => ?_) (fun c79 => ?_)
  · refine s_iconst H at_88 (z := (1 : Int32)) (by decide) (pc' := 89) rfl ?_
    refine s_goto H at_89 (pc' := 93) (by decide) ?_
    refine s_istore H at_93 (L' := fun z => #[.val (.int i0), .val (.int i1), .val (.int i2), .val (.int i3), .val (.long i4), .second, .val (.int (1 : Int32)), .val (.int (6 : Int32)), .val (.int d0), .val (.int d1), .val (.int d2), .val (.ref da), .val (.int (300 : Int32)), .val (.ref a1), .val (.ref ou), .val (.int z), .unset]) (fun _ => rfl) (pc' := 95) rfl (fun z0 hz => ?_)
    subst z0
    refine s_iload H at_95 rfl (pc' := 97) rfl ?_
    refine s_if H at_97 (py := 107) (pc' := 100) z_eq (by decide) rfl (fun c97 => ?_) (fun c97 => ?_)
    · exact absurd c97 (by decide)
    · refine s_iconst H at_100 (z := (5 : Int32)) (by decide) (pc' := 101) rfl ?_
      refine s_iload H at_101 rfl (pc' := 103) rfl ?_
      refine s_iadd H at_103 (pc' := 104) rfl ?_
      refine s_goto H at_104 (pc' := 108) (by decide) ?_
      refine s_istore H at_108 (L' := fun z => #[.val (.int i0), .val (.int i1), .val (.int i2), .val (.int i3), .val (.long i4), .second, .val (.int (1 : Int32)), .val (.int (6 : Int32)), .val (.int d0), .val (.int d1), .val (.int d2), .val (.ref da), .val (.int (300 : Int32)), .val (.ref a1), .val (.ref ou), .val (.int (1 : Int32)), .val (.int z)]) (fun _ => rfl) (pc' := 110) rfl (fun z0 hz => ?_)
      subst z0
      refine s_aload H at_110 rfl rfl (pc' := 112) rfl ?_
      refine s_alenI H at_112 (i := 0) rfl (z := (305 : Int32)) (by simp only [List.length_cons, e1]; rfl) (pc' := 113) rfl ?_
      refine s_iload H at_113 rfl (pc' := 115) rfl ?_
      refine s_icmp H at_115 (py := 120) (pc' := 118) q_eq (by decide) rfl (fun c115 => ?_) (fun c115 => ?_)
      · refine s_aload H at_120 rfl rfl (pc' := 122) rfl ?_
        refine s_iconst H at_122 (z := (0 : Int32)) (by decide) (pc' := 123) rfl ?_
        refine s_baload H at_123 (i := 0) rfl (x := ((1 : Int32).toInt8.toInt32)) (by decide) (jn := 0) (by decide) rfl (pc' := 124) rfl ?_
        refine s_sipush H at_124 (z := (255 : Int32)) (by decide) (pc' := 127) rfl ?_
        refine s_iand H at_127 (pc' := 128) rfl ?_
        refine s_iload H at_128 rfl (pc' := 130) rfl ?_
        refine s_icmp H at_130 (py := 135) (pc' := 133) q_eq (by decide) rfl (fun c130 => ?_) (fun c130 => ?_)
        · refine s_aload H at_135 rfl rfl (pc' := 137) rfl ?_
          refine s_iconst H at_137 (z := (1 : Int32)) (by decide) (pc' := 138) rfl ?_
          refine s_baload H at_138 (i := 0) rfl (x := (i1.toInt8.toInt32)) (by decide) (jn := 1) (by decide) rfl (pc' := 139) rfl ?_
          refine s_sipush H at_139 (z := (255 : Int32)) (by decide) (pc' := 142) rfl ?_
          refine s_iand H at_142 (pc' := 143) rfl ?_
          refine s_iloadn H at_143 rfl (pc' := 144) rfl ?_
          refine s_sipush H at_144 (z := (255 : Int32)) (by decide) (pc' := 147) rfl ?_
          refine s_iand H at_147 (pc' := 148) rfl ?_
          refine s_icmp H at_148 (py := 153) (pc' := 151) q_eq (by decide) rfl (fun c148 => ?_) (fun c148 => ?_)
          · refine s_aload H at_153 rfl rfl (pc' := 155) rfl ?_
            refine s_iconst H at_155 (z := (2 : Int32)) (by decide) (pc' := 156) rfl ?_
            refine s_baload H at_156 (i := 0) rfl (x := ((((305 : Nat).toInt32.toUInt32 >>> ((8 : Int32) &&& 31).toUInt32).toInt32).toInt8.toInt32)) (by decide) (jn := 2) (by decide) rfl (pc' := 157) rfl ?_
            refine s_sipush H at_157 (z := (255 : Int32)) (by decide) (pc' := 160) rfl ?_
            refine s_iand H at_160 (pc' := 161) rfl ?_
            refine s_bipush H at_161 (z := (8 : Int32)) (by decide) (pc' := 163) rfl ?_
            refine s_ishl H at_163 (pc' := 164) rfl ?_
            refine s_aload H at_164 rfl rfl (pc' := 166) rfl ?_
            refine s_iconst H at_166 (z := (3 : Int32)) (by decide) (pc' := 167) rfl ?_
            refine s_baload H at_167 (i := 0) rfl (x := ((305 : Nat).toInt32.toInt8.toInt32)) (by decide) (jn := 3) (by decide) rfl (pc' := 168) rfl ?_
            refine s_sipush H at_168 (z := (255 : Int32)) (by decide) (pc' := 171) rfl ?_
            refine s_iand H at_171 (pc' := 172) rfl ?_
            refine s_ior H at_172 (pc' := 173) rfl ?_
            refine s_iload H at_173 rfl (pc' := 175) rfl ?_
            refine s_icmp H at_175 (py := 180) (pc' := 178) q_eq (by decide) rfl (fun c175 => ?_) (fun c175 => ?_)
            · refine s_iload H at_180 rfl (pc' := 182) rfl ?_
              refine s_if H at_182 (py := 187) (pc' := 185) z_ne (by decide) rfl (fun c182 => ?_) (fun c182 => ?_)
              · refine s_aload H at_187 rfl rfl (pc' := 189) rfl ?_
                refine s_iconst H at_189 (z := (4 : Int32)) (by decide) (pc' := 190) rfl ?_
                refine s_baload H at_190 (i := 0) rfl (x := (i2.toInt8.toInt32)) (by decide) (jn := 4) (by decide) rfl (pc' := 191) rfl ?_
                refine s_sipush H at_191 (z := (255 : Int32)) (by decide) (pc' := 194) rfl ?_
                refine s_iand H at_194 (pc' := 195) rfl ?_
                refine s_iloadn H at_195 rfl (pc' := 196) rfl ?_
                refine s_sipush H at_196 (z := (255 : Int32)) (by decide) (pc' := 199) rfl ?_
                refine s_iand H at_199 (pc' := 200) rfl ?_
                refine s_icmp H at_200 (py := 205) (pc' := 203) q_eq (by decide) rfl (fun c200 => ?_) (fun c200 => ?_)
                · refine s_iload H at_205 rfl (pc' := 207) rfl ?_
                  refine s_iconst H at_207 (z := (3 : Int32)) (by decide) (pc' := 208) rfl ?_
                  refine s_icmp H at_208 (py := 218) (pc' := 211) q_le (by decide) rfl (fun c208 => ?_) (fun c208 => ?_)
                  · exact absurd c208 (by decide)
                  · refine s_iload H at_211 rfl (pc' := 213) rfl ?_
                    refine s_bipush H at_213 (z := (7 : Int32)) (by decide) (pc' := 215) rfl ?_
                    refine s_icmp H at_215 (py := 291) (pc' := 218) q_ne (by decide) rfl (fun c215 => ?_) (fun c215 => ?_)
                    · refine s_aload H at_291 rfl rfl (pc' := 293) rfl ?_
                      refine s_iconst H at_293 (z := (5 : Int32)) (by decide) (pc' := 294) rfl ?_
                      refine s_baload H at_294 (i := 0) rfl (x := d0) (by decide) (jn := 5) (by decide) e2 (pc' := 295) rfl ?_
                      refine s_iload H at_295 rfl (pc' := 297) rfl ?_
                      refine s_icmp H at_297 (py := 302) (pc' := 300) q_eq (by decide) rfl (fun c297 => ?_) (fun c297 => ?_)
                      · refine s_aload H at_302 rfl rfl (pc' := 304) rfl ?_
                        refine s_iconst H at_304 (z := (5 : Int32)) (by decide) (pc' := 305) rfl ?_
                        refine s_iload H at_305 rfl (pc' := 307) rfl ?_
                        refine s_iconst H at_307 (z := (2 : Int32)) (by decide) (pc' := 308) rfl ?_
                        refine s_idiv H at_308 (by decide) (pc' := 309) rfl ?_
                        refine s_iadd H at_309 (pc' := 310) rfl ?_
                        refine s_baload H at_310 (i := 0) rfl (x := d2) (by decide) (jn := 155) (by decide) e3 (pc' := 311) rfl ?_
                        refine s_iload H at_311 rfl (pc' := 313) rfl ?_
                        refine s_icmp H at_313 (py := 318) (pc' := 316) q_eq (by decide) rfl (fun c313 => ?_) (fun c313 => ?_)
                        · refine s_aload H at_318 rfl rfl (pc' := 320) rfl ?_
                          refine s_iconst H at_320 (z := (4 : Int32)) (by decide) (pc' := 321) rfl ?_
                          refine s_iload H at_321 rfl (pc' := 323) rfl ?_
                          refine s_iadd H at_323 (pc' := 324) rfl ?_
                          refine s_baload H at_324 (i := 0) rfl (x := d1) (by decide) (jn := 304) (by decide) e4 (pc' := 325) rfl ?_
                          refine s_iload H at_325 rfl (pc' := 327) rfl ?_
                          refine s_icmp H at_327 (py := 332) (pc' := 330) q_eq (by decide) rfl (fun c327 => ?_) (fun c327 => ?_)
                          · refine s_aload H at_332 rfl rfl (pc' := 334) rfl ?_
                            refine s_bipush H at_334 (z := (6 : Int32)) (by decide) (pc' := 336) rfl ?_
                            refine s_baload H at_336 (i := 0) rfl (x := (0 : Int32)) (by decide) (jn := 6) (by decide) e5 (pc' := 337) rfl ?_
                            refine s_if H at_337 (py := 342) (pc' := 340) z_eq (by decide) rfl (fun c337 => ?_) (fun c337 => ?_)
                            · refine s_aload H at_342 rfl rfl (pc' := 344) rfl ?_
                              refine s_iconst H at_344 (z := (3 : Int32)) (by decide) (pc' := 345) rfl ?_
                              refine s_iload H at_345 rfl (pc' := 347) rfl ?_
                              refine s_iadd H at_347 (pc' := 348) rfl ?_
                              refine s_baload H at_348 (i := 0) rfl (x := (0 : Int32)) (by decide) (jn := 303) (by decide) e6 (pc' := 349) rfl ?_
                              refine s_if H at_349 (py := 354) (pc' := 352) z_eq (by decide) rfl (fun c349 => ?_) (fun c349 => ?_)
                              · refine s_iconst H at_354 (z := (1 : Int32)) (by decide) (pc' := 355) rfl ?_
                                exact s_iret H at_355 rfl (by simp) (by decide) (by decide) (rfl)
                              · exact absurd c349 (by decide)
                            · exact absurd c337 (by decide)
                          · exact absurd rfl c327
                        · exact absurd rfl c313
                      · exact absurd rfl c297
                    · exact absurd c215 (by decide)
                · exact absurd (own_b255 i2) c200
              · exact absurd c182 (by decide)
            · exact absurd (own_len16 ⟨305, by decide⟩) c175
          · exact absurd (own_b255 i1) c148
        · exact absurd (by decide) c130
      · exact absurd c115 (by decide)
  · exact absurd c79 (by decide)
set_option maxRecDepth 65536 in
set_option maxHeartbeats 40000000 in
theorem s36_6_2 {Z : State} {k : Cx} {i0 i1 i2 i3 d0 d1 d2 : Int32} {i4 : Int64} (H : Ok Z k room_1 (LQ) x code maxLocals ret) (h0 : nar .byte d0 = d0) (h1 : nar .byte d1 = d1) (h2 : nar .byte d2 = d2) : Go Z k 0 0 ([] : Hp) 36 #[.val (.int i0), .val (.int i1), .val (.int i2), .val (.int i3), .val (.long i4), .second, .val (.int (2 : Int32)), .val (.int (6 : Int32)), .val (.int d0), .val (.int d1), .val (.int d2), .unset, .unset, .unset, .unset, .unset, .unset] [] := by
  refine s_iload H at_36 rfl (pc' := 38) rfl ?_
  refine s_iload H at_38 rfl (pc' := 40) rfl ?_
  refine s_iload H at_40 rfl (pc' := 42) rfl ?_
  refine s_iload H at_42 rfl (pc' := 44) rfl ?_
  refine s_static H (met_md6 H.tb d0 d1 d2 h0 h1 h2) at_44 (mem (i := 0) rfl) (mem (i := 1) rfl) (mem (i := 2) rfl) (mem (i := 3) rfl) (by decide) pd_1 rfl (rest := []) rfl rfl (by decide) (Nat.le_of_ble_eq_true rfl) (cn' := 1) (sn' := 300) rfl rfl (by decide) (by decide) (pc' := 47) rfl (fun _ _ hq => ?_)
  obtain ⟨da, dl, e1, e2, e3, e4, e5, e6, rfl, rfl⟩ := hq
  show Go Z k 1 300 ((da, ArI Z .byte dl) :: []) 47 #[.val (.int i0), .val (.int i1), .val (.int i2), .val (.int i3), .val (.long i4), .second, .val (.int (2 : Int32)), .val (.int (6 : Int32)), .val (.int d0), .val (.int d1), .val (.int d2), .unset, .unset, .unset, .unset, .unset, .unset] [(.ref da)]
  refine s_astore H at_47 (L' := #[.val (.int i0), .val (.int i1), .val (.int i2), .val (.int i3), .val (.long i4), .second, .val (.int (2 : Int32)), .val (.int (6 : Int32)), .val (.int d0), .val (.int d1), .val (.int d2), .val (.ref da), .unset, .unset, .unset, .unset, .unset]) rfl rfl (pc' := 49) rfl ?_
  refine s_aload H at_49 rfl rfl (pc' := 51) rfl ?_
  refine s_alenI H at_51 (i := 0) rfl (z := (300 : Int32)) (by rw [e1]; rfl) (pc' := 52) rfl ?_
  refine s_istore H at_52 (L' := fun z => #[.val (.int i0), .val (.int i1), .val (.int i2), .val (.int i3), .val (.long i4), .second, .val (.int (2 : Int32)), .val (.int (6 : Int32)), .val (.int d0), .val (.int d1), .val (.int d2), .val (.ref da), .val (.int z), .unset, .unset, .unset, .unset]) (fun _ => rfl) (pc' := 54) rfl (fun z0 hz => ?_)
  subst z0
  refine s_new H (C := "com/example/quintet/quintet/EapPacket") [("com/example/quintet/quintet/EapPacket", "code", "I", (.int (0 : Int32))), ("com/example/quintet/quintet/EapPacket", "identifier", "I", (.int (0 : Int32))), ("com/example/quintet/quintet/EapPacket", "type", "I", (.int (0 : Int32))), ("com/example/quintet/quintet/EapPacket", "data", "[B", .null)] at_54 (mem (i := 5) rfl) (mem (i := 6) rfl) (mem (i := 7) rfl) (allC ⟨Or.inr (mem (i := 20) rfl), .int, by decide, rfl⟩ (allC ⟨Or.inr (mem (i := 22) rfl), .int, by decide, rfl⟩ (allC ⟨Or.inr (mem (i := 24) rfl), .int, by decide, rfl⟩ (allC ⟨Or.inr (mem (i := 26) rfl), (.array .byte), by decide, rfl⟩ allN)))) (by decide) (cn' := 2) (sn' := 304) rfl rfl (by decide) (by decide) (pc' := 57) rfl (fun a1 => ?_)
  refine s_dup H at_57 rfl (pc' := 58) rfl ?_
  refine s_iload H at_58 rfl (pc' := 60) rfl ?_
  refine s_iloadn H at_60 rfl (pc' := 61) rfl ?_
  refine s_iloadn H at_61 rfl (pc' := 62) rfl ?_
  refine s_aload H at_62 rfl rfl (pc' := 64) rfl ?_
  refine s_init H (met_ei H.tb a1 da (2 : Int32) i1 i2) at_64 rfl (mem (i := 8) rfl) (mem (i := 9) rfl) (mem (i := 7) rfl) (mem (i := 10) rfl) (by decide) pd_2 rfl (rest := [(.ref a1)]) rfl rfl (by decide) (Nat.le_of_ble_eq_true rfl) (cn' := 2) (sn' := 304) rfl rfl (by decide) (by decide) (pc' := 67) rfl (fun _ _ hq => ?_)
  obtain ⟨rfl, rfl⟩ := hq
  show Go Z k 2 304 ((a1, Obj Z "com/example/quintet/quintet/EapPacket" [("com/example/quintet/quintet/EapPacket", "code", "I", (.int (2 : Int32))), ("com/example/quintet/quintet/EapPacket", "identifier", "I", (.int i1)), ("com/example/quintet/quintet/EapPacket", "type", "I", (.int i2)), ("com/example/quintet/quintet/EapPacket", "data", "[B", (.ref da))]) :: (da, ArI Z .byte dl) :: []) 67 #[.val (.int i0), .val (.int i1), .val (.int i2), .val (.int i3), .val (.long i4), .second, .val (.int (2 : Int32)), .val (.int (6 : Int32)), .val (.int d0), .val (.int d1), .val (.int d2), .val (.ref da), .val (.int (300 : Int32)), .unset, .unset, .unset, .unset] [(.ref a1)]
  refine s_astore H at_67 (L' := #[.val (.int i0), .val (.int i1), .val (.int i2), .val (.int i3), .val (.long i4), .second, .val (.int (2 : Int32)), .val (.int (6 : Int32)), .val (.int d0), .val (.int d1), .val (.int d2), .val (.ref da), .val (.int (300 : Int32)), .val (.ref a1), .unset, .unset, .unset]) rfl rfl (pc' := 69) rfl ?_
  refine s_aload H at_69 rfl rfl (pc' := 71) rfl ?_
  refine s_virtual H (met_byt H.tb a1 da (2 : Int32) i1 i2 dl (by decide) (by omega)) at_71 (i := 0) rfl (mem (i := 27) rfl) (mem (i := 28) rfl) (mem (i := 30) rfl) (mem (i := 29) rfl) (mem (i := 7) rfl) (mem (i := 31) rfl) (by decide) pd_5 rfl (rest := []) rfl rfl (by decide) (Nat.le_of_ble_eq_true rfl) (cn' := 3) (sn' := 609) rfl rfl (by decide) (by decide) (pc' := 74) rfl (fun _ _ hq => ?_)
  obtain ⟨ou, rfl, rfl⟩ := hq
  show Go Z k 3 609 ((ou, ArI Z .byte (((2 : Int32).toInt8.toInt32) :: (i1.toInt8.toInt32) :: ((((5 + dl.length).toInt32.toUInt32 >>> ((8 : Int32) &&& 31).toUInt32).toInt32).toInt8.toInt32) :: ((5 + dl.length).toInt32.toInt8.toInt32) :: (i2.toInt8.toInt32) :: dl)) :: (a1, Obj Z "com/example/quintet/quintet/EapPacket" [("com/example/quintet/quintet/EapPacket", "code", "I", (.int (2 : Int32))), ("com/example/quintet/quintet/EapPacket", "identifier", "I", (.int i1)), ("com/example/quintet/quintet/EapPacket", "type", "I", (.int i2)), ("com/example/quintet/quintet/EapPacket", "data", "[B", (.ref da))]) :: (da, ArI Z .byte dl) :: []) 74 #[.val (.int i0), .val (.int i1), .val (.int i2), .val (.int i3), .val (.long i4), .second, .val (.int (2 : Int32)), .val (.int (6 : Int32)), .val (.int d0), .val (.int d1), .val (.int d2), .val (.ref da), .val (.int (300 : Int32)), .val (.ref a1), .unset, .unset, .unset] [(.ref ou)]
  rw [e1]
  show Go Z k 3 609 ((ou, ArI Z .byte (((2 : Int32).toInt8.toInt32) :: (i1.toInt8.toInt32) :: ((((305 : Nat).toInt32.toUInt32 >>> ((8 : Int32) &&& 31).toUInt32).toInt32).toInt8.toInt32) :: ((305 : Nat).toInt32.toInt8.toInt32) :: (i2.toInt8.toInt32) :: dl)) :: (a1, Obj Z "com/example/quintet/quintet/EapPacket" [("com/example/quintet/quintet/EapPacket", "code", "I", (.int (2 : Int32))), ("com/example/quintet/quintet/EapPacket", "identifier", "I", (.int i1)), ("com/example/quintet/quintet/EapPacket", "type", "I", (.int i2)), ("com/example/quintet/quintet/EapPacket", "data", "[B", (.ref da))]) :: (da, ArI Z .byte dl) :: []) 74 #[.val (.int i0), .val (.int i1), .val (.int i2), .val (.int i3), .val (.long i4), .second, .val (.int (2 : Int32)), .val (.int (6 : Int32)), .val (.int d0), .val (.int d1), .val (.int d2), .val (.ref da), .val (.int (300 : Int32)), .val (.ref a1), .unset, .unset, .unset] [(.ref ou)]
  refine s_astore H at_74 (L' := #[.val (.int i0), .val (.int i1), .val (.int i2), .val (.int i3), .val (.long i4), .second, .val (.int (2 : Int32)), .val (.int (6 : Int32)), .val (.int d0), .val (.int d1), .val (.int d2), .val (.ref da), .val (.int (300 : Int32)), .val (.ref a1), .val (.ref ou), .unset, .unset]) rfl rfl (pc' := 76) rfl ?_
  refine s_iload H at_76 rfl (pc' := 78) rfl ?_
  refine s_iconst H at_78 (z := (1 : Int32)) (by decide) (pc' := 79) rfl ?_
  refine s_icmp H at_79 (py := 88) (pc' := 82) q_eq (by decide) rfl (fun c79 => ?_) (fun c79 => ?_)
  · exact absurd c79 (by decide)
  · refine s_iload H at_82 rfl (pc' := 84) rfl ?_
    refine s_iconst H at_84 (z := (2 : Int32)) (by decide) (pc' := 85) rfl ?_
    refine s_icmp H at_85 (py := 92) (pc' := 88) q_ne (by decide) rfl (fun c85 => ?_) (fun c85 => ?_)
    · exact absurd c85 (by decide)
    · refine s_iconst H at_88 (z := (1 : Int32)) (by decide) (pc' := 89) rfl ?_
      refine s_goto H at_89 (pc' := 93) (by decide) ?_
      refine s_istore H at_93 (L' := fun z => #[.val (.int i0), .val (.int i1), .val (.int i2), .val (.int i3), .val (.long i4), .second, .val (.int (2 : Int32)), .val (.int (6 : Int32)), .val (.int d0), .val (.int d1), .val (.int d2), .val (.ref da), .val (.int (300 : Int32)), .val (.ref a1), .val (.ref ou), .val (.int z), .unset]) (fun _ => rfl) (pc' := 95) rfl (fun z0 hz => ?_)
      subst z0
      refine s_iload H at_95 rfl (pc' := 97) rfl ?_
      refine s_if H at_97 (py := 107) (pc' := 100) z_eq (by decide) rfl (fun c97 => ?_) (fun c97 => ?_)
      · exact absurd c97 (by decide)
      · refine s_iconst H at_100 (z := (5 : Int32)) (by decide) (pc' := 101) rfl ?_
        refine s_iload H at_101 rfl (pc' := 103) rfl ?_
        refine s_iadd H at_103 (pc' := 104) rfl ?_
        refine s_goto H at_104 (pc' := 108) (by decide) ?_
        refine s_istore H at_108 (L' := fun z => #[.val (.int i0), .val (.int i1), .val (.int i2), .val (.int i3), .val (.long i4), .second, .val (.int (2 : Int32)), .val (.int (6 : Int32)), .val (.int d0), .val (.int d1), .val (.int d2), .val (.ref da), .val (.int (300 : Int32)), .val (.ref a1), .val (.ref ou), .val (.int (1 : Int32)), .val (.int z)]) (fun _ => rfl) (pc' := 110) rfl (fun z0 hz => ?_)
        subst z0
        refine s_aload H at_110 rfl rfl (pc' := 112) rfl ?_
        refine s_alenI H at_112 (i := 0) rfl (z := (305 : Int32)) (by simp only [List.length_cons, e1]; rfl) (pc' := 113) rfl ?_
        refine s_iload H at_113 rfl (pc' := 115) rfl ?_
        refine s_icmp H at_115 (py := 120) (pc' := 118) q_eq (by decide) rfl (fun c115 => ?_) (fun c115 => ?_)
        · refine s_aload H at_120 rfl rfl (pc' := 122) rfl ?_
          refine s_iconst H at_122 (z := (0 : Int32)) (by decide) (pc' := 123) rfl ?_
          refine s_baload H at_123 (i := 0) rfl (x := ((2 : Int32).toInt8.toInt32)) (by decide) (jn := 0) (by decide) rfl (pc' := 124) rfl ?_
          refine s_sipush H at_124 (z := (255 : Int32)) (by decide) (pc' := 127) rfl ?_
          refine s_iand H at_127 (pc' := 128) rfl ?_
          refine s_iload H at_128 rfl (pc' := 130) rfl ?_
          refine s_icmp H at_130 (py := 135) (pc' := 133) q_eq (by decide) rfl (fun c130 => ?_) (fun c130 => ?_)
          · refine s_aload H at_135 rfl rfl (pc' := 137) rfl ?_
            refine s_iconst H at_137 (z := (1 : Int32)) (by decide) (pc' := 138) rfl ?_
            refine s_baload H at_138 (i := 0) rfl (x := (i1.toInt8.toInt32)) (by decide) (jn := 1) (by decide) rfl (pc' := 139) rfl ?_
            refine s_sipush H at_139 (z := (255 : Int32)) (by decide) (pc' := 142) rfl ?_
            refine s_iand H at_142 (pc' := 143) rfl ?_
            refine s_iloadn H at_143 rfl (pc' := 144) rfl ?_
            refine s_sipush H at_144 (z := (255 : Int32)) (by decide) (pc' := 147) rfl ?_
            refine s_iand H at_147 (pc' := 148) rfl ?_
            refine s_icmp H at_148 (py := 153) (pc' := 151) q_eq (by decide) rfl (fun c148 => ?_) (fun c148 => ?_)
            · refine s_aload H at_153 rfl rfl (pc' := 155) rfl ?_
              refine s_iconst H at_155 (z := (2 : Int32)) (by decide) (pc' := 156) rfl ?_
              refine s_baload H at_156 (i := 0) rfl (x := ((((305 : Nat).toInt32.toUInt32 >>> ((8 : Int32) &&& 31).toUInt32).toInt32).toInt8.toInt32)) (by decide) (jn := 2) (by decide) rfl (pc' := 157) rfl ?_
              refine s_sipush H at_157 (z := (255 : Int32)) (by decide) (pc' := 160) rfl ?_
              refine s_iand H at_160 (pc' := 161) rfl ?_
              refine s_bipush H at_161 (z := (8 : Int32)) (by decide) (pc' := 163) rfl ?_
              refine s_ishl H at_163 (pc' := 164) rfl ?_
              refine s_aload H at_164 rfl rfl (pc' := 166) rfl ?_
              refine s_iconst H at_166 (z := (3 : Int32)) (by decide) (pc' := 167) rfl ?_
              refine s_baload H at_167 (i := 0) rfl (x := ((305 : Nat).toInt32.toInt8.toInt32)) (by decide) (jn := 3) (by decide) rfl (pc' := 168) rfl ?_
              refine s_sipush H at_168 (z := (255 : Int32)) (by decide) (pc' := 171) rfl ?_
              refine s_iand H at_171 (pc' := 172) rfl ?_
              refine s_ior H at_172 (pc' := 173) rfl ?_
              refine s_iload H at_173 rfl (pc' := 175) rfl ?_
              refine s_icmp H at_175 (py := 180) (pc' := 178) q_eq (by decide) rfl (fun c175 => ?_) (fun c175 => ?_)
              · refine s_iload H at_180 rfl (pc' := 182) rfl ?_
                refine s_if H at_182 (py := 187) (pc' := 185) z_ne (by decide) rfl (fun c182 => ?_) (fun c182 => ?_)
                · refine s_aload H at_187 rfl rfl (pc' := 189) rfl ?_
                  refine s_iconst H at_189 (z := (4 : Int32)) (by decide) (pc' := 190) rfl ?_
                  refine s_baload H at_190 (i := 0) rfl (x := (i2.toInt8.toInt32)) (by decide) (jn := 4) (by decide) rfl (pc' := 191) rfl ?_
                  refine s_sipush H at_191 (z := (255 : Int32)) (by decide) (pc' := 194) rfl ?_
                  refine s_iand H at_194 (pc' := 195) rfl ?_
                  refine s_iloadn H at_195 rfl (pc' := 196) rfl ?_
                  refine s_sipush H at_196 (z := (255 : Int32)) (by decide) (pc' := 199) rfl ?_
                  refine s_iand H at_199 (pc' := 200) rfl ?_
                  refine s_icmp H at_200 (py := 205) (pc' := 203) q_eq (by decide) rfl (fun c200 => ?_) (fun c200 => ?_)
                  · refine s_iload H at_205 rfl (pc' := 207) rfl ?_
                    refine s_iconst H at_207 (z := (3 : Int32)) (by decide) (pc' := 208) rfl ?_
                    refine s_icmp H at_208 (py := 218) (pc' := 211) q_le (by decide) rfl (fun c208 => ?_) (fun c208 => ?_)
                    · exact absurd c208 (by decide)
                    · refine s_iload H at_211 rfl (pc' := 213) rfl ?_
                      refine s_bipush H at_213 (z := (7 : Int32)) (by decide) (pc' := 215) rfl ?_
                      refine s_icmp H at_215 (py := 291) (pc' := 218) q_ne (by decide) rfl (fun c215 => ?_) (fun c215 => ?_)
                      · refine s_aload H at_291 rfl rfl (pc' := 293) rfl ?_
                        refine s_iconst H at_293 (z := (5 : Int32)) (by decide) (pc' := 294) rfl ?_
                        refine s_baload H at_294 (i := 0) rfl (x := d0) (by decide) (jn := 5) (by decide) e2 (pc' := 295) rfl ?_
                        refine s_iload H at_295 rfl (pc' := 297) rfl ?_
                        refine s_icmp H at_297 (py := 302) (pc' := 300) q_eq (by decide) rfl (fun c297 => ?_) (fun c297 => ?_)
                        · refine s_aload H at_302 rfl rfl (pc' := 304) rfl ?_
                          refine s_iconst H at_304 (z := (5 : Int32)) (by decide) (pc' := 305) rfl ?_
                          refine s_iload H at_305 rfl (pc' := 307) rfl ?_
                          refine s_iconst H at_307 (z := (2 : Int32)) (by decide) (pc' := 308) rfl ?_
                          refine s_idiv H at_308 (by decide) (pc' := 309) rfl ?_
                          refine s_iadd H at_309 (pc' := 310) rfl ?_
                          refine s_baload H at_310 (i := 0) rfl (x := d2) (by decide) (jn := 155) (by decide) e3 (pc' := 311) rfl ?_
                          refine s_iload H at_311 rfl (pc' := 313) rfl ?_
                          refine s_icmp H at_313 (py := 318) (pc' := 316) q_eq (by decide) rfl (fun c313 => ?_) (fun c313 => ?_)
                          · refine s_aload H at_318 rfl rfl (pc' := 320) rfl ?_
                            refine s_iconst H at_320 (z := (4 : Int32)) (by decide) (pc' := 321) rfl ?_
                            refine s_iload H at_321 rfl (pc' := 323) rfl ?_
                            refine s_iadd H at_323 (pc' := 324) rfl ?_
                            refine s_baload H at_324 (i := 0) rfl (x := d1) (by decide) (jn := 304) (by decide) e4 (pc' := 325) rfl ?_
                            refine s_iload H at_325 rfl (pc' := 327) rfl ?_
                            refine s_icmp H at_327 (py := 332) (pc' := 330) q_eq (by decide) rfl (fun c327 => ?_) (fun c327 => ?_)
                            · refine s_aload H at_332 rfl rfl (pc' := 334) rfl ?_
                              refine s_bipush H at_334 (z := (6 : Int32)) (by decide) (pc' := 336) rfl ?_
                              refine s_baload H at_336 (i := 0) rfl (x := (0 : Int32)) (by decide) (jn := 6) (by decide) e5 (pc' := 337) rfl ?_
                              refine s_if H at_337 (py := 342) (pc' := 340) z_eq (by decide) rfl (fun c337 => ?_) (fun c337 => ?_)
                              · refine s_aload H at_342 rfl rfl (pc' := 344) rfl ?_
                                refine s_iconst H at_344 (z := (3 : Int32)) (by decide) (pc' := 345) rfl ?_
                                refine s_iload H at_345 rfl (pc' := 347) rfl ?_
                                refine s_iadd H at_347 (pc' := 348) rfl ?_
                                refine s_baload H at_348 (i := 0) rfl (x := (0 : Int32)) (by decide) (jn := 303) (by decide) e6 (pc' := 349) rfl ?_
                                refine s_if H at_349 (py := 354) (pc' := 352) z_eq (by decide) rfl (fun c349 => ?_) (fun c349 => ?_)
                                · refine s_iconst H at_354 (z := (1 : Int32)) (by decide) (pc' := 355) rfl ?_
                                  exact s_iret H at_355 rfl (by simp) (by decide) (by decide) (rfl)
                                · exact absurd c349 (by decide)
                              · exact absurd c337 (by decide)
                            · exact absurd rfl c327
                          · exact absurd rfl c313
                        · exact absurd rfl c297
                      · exact absurd c215 (by decide)
                  · exact absurd (own_b255 i2) c200
                · exact absurd c182 (by decide)
              · exact absurd (own_len16 ⟨305, by decide⟩) c175
            · exact absurd (own_b255 i1) c148
          · exact absurd (by decide) c130
        · exact absurd c115 (by decide)
set_option maxRecDepth 65536 in
set_option maxHeartbeats 40000000 in
theorem s36_6_x {Z : State} {k : Cx} {i0 i1 i2 i3 d0 d1 d2 cc : Int32} {i4 : Int64} (H : Ok Z k room_1 (LQ) x code maxLocals ret) (h0 : nar .byte d0 = d0) (h1 : nar .byte d1 = d1) (h2 : nar .byte d2 = d2) (hc : ¬ (cc = 1 ∨ cc = 2)) (hc0 : 0 ≤ cc.toInt) (hc7 : cc.toInt ≤ 7) : Go Z k 0 0 ([] : Hp) 36 #[.val (.int i0), .val (.int i1), .val (.int i2), .val (.int i3), .val (.long i4), .second, .val (.int cc), .val (.int (6 : Int32)), .val (.int d0), .val (.int d1), .val (.int d2), .unset, .unset, .unset, .unset, .unset, .unset] [] := by
  refine s_iload H at_36 rfl (pc' := 38) rfl ?_
  refine s_iload H at_38 rfl (pc' := 40) rfl ?_
  refine s_iload H at_40 rfl (pc' := 42) rfl ?_
  refine s_iload H at_42 rfl (pc' := 44) rfl ?_
  refine s_static H (met_md6 H.tb d0 d1 d2 h0 h1 h2) at_44 (mem (i := 0) rfl) (mem (i := 1) rfl) (mem (i := 2) rfl) (mem (i := 3) rfl) (by decide) pd_1 rfl (rest := []) rfl rfl (by decide) (Nat.le_of_ble_eq_true rfl) (cn' := 1) (sn' := 300) rfl rfl (by decide) (by decide) (pc' := 47) rfl (fun _ _ hq => ?_)
  obtain ⟨da, dl, e1, e2, e3, e4, e5, e6, rfl, rfl⟩ := hq
  show Go Z k 1 300 ((da, ArI Z .byte dl) :: []) 47 #[.val (.int i0), .val (.int i1), .val (.int i2), .val (.int i3), .val (.long i4), .second, .val (.int cc), .val (.int (6 : Int32)), .val (.int d0), .val (.int d1), .val (.int d2), .unset, .unset, .unset, .unset, .unset, .unset] [(.ref da)]
  refine s_astore H at_47 (L' := #[.val (.int i0), .val (.int i1), .val (.int i2), .val (.int i3), .val (.long i4), .second, .val (.int cc), .val (.int (6 : Int32)), .val (.int d0), .val (.int d1), .val (.int d2), .val (.ref da), .unset, .unset, .unset, .unset, .unset]) rfl rfl (pc' := 49) rfl ?_
  refine s_aload H at_49 rfl rfl (pc' := 51) rfl ?_
  refine s_alenI H at_51 (i := 0) rfl (z := (300 : Int32)) (by rw [e1]; rfl) (pc' := 52) rfl ?_
  refine s_istore H at_52 (L' := fun z => #[.val (.int i0), .val (.int i1), .val (.int i2), .val (.int i3), .val (.long i4), .second, .val (.int cc), .val (.int (6 : Int32)), .val (.int d0), .val (.int d1), .val (.int d2), .val (.ref da), .val (.int z), .unset, .unset, .unset, .unset]) (fun _ => rfl) (pc' := 54) rfl (fun z0 hz => ?_)
  subst z0
  refine s_new H (C := "com/example/quintet/quintet/EapPacket") [("com/example/quintet/quintet/EapPacket", "code", "I", (.int (0 : Int32))), ("com/example/quintet/quintet/EapPacket", "identifier", "I", (.int (0 : Int32))), ("com/example/quintet/quintet/EapPacket", "type", "I", (.int (0 : Int32))), ("com/example/quintet/quintet/EapPacket", "data", "[B", .null)] at_54 (mem (i := 5) rfl) (mem (i := 6) rfl) (mem (i := 7) rfl) (allC ⟨Or.inr (mem (i := 20) rfl), .int, by decide, rfl⟩ (allC ⟨Or.inr (mem (i := 22) rfl), .int, by decide, rfl⟩ (allC ⟨Or.inr (mem (i := 24) rfl), .int, by decide, rfl⟩ (allC ⟨Or.inr (mem (i := 26) rfl), (.array .byte), by decide, rfl⟩ allN)))) (by decide) (cn' := 2) (sn' := 304) rfl rfl (by decide) (by decide) (pc' := 57) rfl (fun a1 => ?_)
  refine s_dup H at_57 rfl (pc' := 58) rfl ?_
  refine s_iload H at_58 rfl (pc' := 60) rfl ?_
  refine s_iloadn H at_60 rfl (pc' := 61) rfl ?_
  refine s_iloadn H at_61 rfl (pc' := 62) rfl ?_
  refine s_aload H at_62 rfl rfl (pc' := 64) rfl ?_
  refine s_init H (met_ei H.tb a1 da cc i1 i2) at_64 rfl (mem (i := 8) rfl) (mem (i := 9) rfl) (mem (i := 7) rfl) (mem (i := 10) rfl) (by decide) pd_2 rfl (rest := [(.ref a1)]) rfl rfl (by decide) (Nat.le_of_ble_eq_true rfl) (cn' := 2) (sn' := 304) rfl rfl (by decide) (by decide) (pc' := 67) rfl (fun _ _ hq => ?_)
  obtain ⟨rfl, rfl⟩ := hq
  show Go Z k 2 304 ((a1, Obj Z "com/example/quintet/quintet/EapPacket" [("com/example/quintet/quintet/EapPacket", "code", "I", (.int cc)), ("com/example/quintet/quintet/EapPacket", "identifier", "I", (.int i1)), ("com/example/quintet/quintet/EapPacket", "type", "I", (.int i2)), ("com/example/quintet/quintet/EapPacket", "data", "[B", (.ref da))]) :: (da, ArI Z .byte dl) :: []) 67 #[.val (.int i0), .val (.int i1), .val (.int i2), .val (.int i3), .val (.long i4), .second, .val (.int cc), .val (.int (6 : Int32)), .val (.int d0), .val (.int d1), .val (.int d2), .val (.ref da), .val (.int (300 : Int32)), .unset, .unset, .unset, .unset] [(.ref a1)]
  refine s_astore H at_67 (L' := #[.val (.int i0), .val (.int i1), .val (.int i2), .val (.int i3), .val (.long i4), .second, .val (.int cc), .val (.int (6 : Int32)), .val (.int d0), .val (.int d1), .val (.int d2), .val (.ref da), .val (.int (300 : Int32)), .val (.ref a1), .unset, .unset, .unset]) rfl rfl (pc' := 69) rfl ?_
  refine s_aload H at_69 rfl rfl (pc' := 71) rfl ?_
  refine s_virtual H (met_byf H.tb a1 da cc i1 i2 dl hc) at_71 (i := 0) rfl (mem (i := 27) rfl) (mem (i := 28) rfl) (mem (i := 30) rfl) (mem (i := 29) rfl) (mem (i := 7) rfl) (mem (i := 31) rfl) (by decide) pd_5 rfl (rest := []) rfl rfl (by decide) (Nat.le_of_ble_eq_true rfl) (cn' := 3) (sn' := 308) rfl rfl (by decide) (by decide) (pc' := 74) rfl (fun _ _ hq => ?_)
  obtain ⟨ou, rfl, rfl⟩ := hq
  show Go Z k 3 308 ((ou, ArI Z .byte ([(cc.toInt8.toInt32), (i1.toInt8.toInt32), ((((4 : Int32).toUInt32 >>> ((8 : Int32) &&& 31).toUInt32).toInt32).toInt8.toInt32), ((4 : Int32).toInt8.toInt32)] : List Int32)) :: (a1, Obj Z "com/example/quintet/quintet/EapPacket" [("com/example/quintet/quintet/EapPacket", "code", "I", (.int cc)), ("com/example/quintet/quintet/EapPacket", "identifier", "I", (.int i1)), ("com/example/quintet/quintet/EapPacket", "type", "I", (.int i2)), ("com/example/quintet/quintet/EapPacket", "data", "[B", (.ref da))]) :: (da, ArI Z .byte dl) :: []) 74 #[.val (.int i0), .val (.int i1), .val (.int i2), .val (.int i3), .val (.long i4), .second, .val (.int cc), .val (.int (6 : Int32)), .val (.int d0), .val (.int d1), .val (.int d2), .val (.ref da), .val (.int (300 : Int32)), .val (.ref a1), .unset, .unset, .unset] [(.ref ou)]
  refine s_astore H at_74 (L' := #[.val (.int i0), .val (.int i1), .val (.int i2), .val (.int i3), .val (.long i4), .second, .val (.int cc), .val (.int (6 : Int32)), .val (.int d0), .val (.int d1), .val (.int d2), .val (.ref da), .val (.int (300 : Int32)), .val (.ref a1), .val (.ref ou), .unset, .unset]) rfl rfl (pc' := 76) rfl ?_
  refine s_iload H at_76 rfl (pc' := 78) rfl ?_
  refine s_iconst H at_78 (z := (1 : Int32)) (by decide) (pc' := 79) rfl ?_
  refine s_icmp H at_79 (py := 88) (pc' := 82) q_eq (by decide) rfl (fun c79 => ?_) (fun c79 => ?_)
  · exact absurd (Or.inl c79) hc
  · refine s_iload H at_82 rfl (pc' := 84) rfl ?_
    refine s_iconst H at_84 (z := (2 : Int32)) (by decide) (pc' := 85) rfl ?_
    refine s_icmp H at_85 (py := 92) (pc' := 88) q_ne (by decide) rfl (fun c85 => ?_) (fun c85 => ?_)
    · refine s_iconst H at_92 (z := (0 : Int32)) (by decide) (pc' := 93) rfl ?_
      refine s_istore H at_93 (L' := fun z => #[.val (.int i0), .val (.int i1), .val (.int i2), .val (.int i3), .val (.long i4), .second, .val (.int cc), .val (.int (6 : Int32)), .val (.int d0), .val (.int d1), .val (.int d2), .val (.ref da), .val (.int (300 : Int32)), .val (.ref a1), .val (.ref ou), .val (.int z), .unset]) (fun _ => rfl) (pc' := 95) rfl (fun z0 hz => ?_)
      subst z0
      refine s_iload H at_95 rfl (pc' := 97) rfl ?_
      refine s_if H at_97 (py := 107) (pc' := 100) z_eq (by decide) rfl (fun c97 => ?_) (fun c97 => ?_)
      · refine s_iconst H at_107 (z := (4 : Int32)) (by decide) (pc' := 108) rfl ?_
        refine s_istore H at_108 (L' := fun z => #[.val (.int i0), .val (.int i1), .val (.int i2), .val (.int i3), .val (.long i4), .second, .val (.int cc), .val (.int (6 : Int32)), .val (.int d0), .val (.int d1), .val (.int d2), .val (.ref da), .val (.int (300 : Int32)), .val (.ref a1), .val (.ref ou), .val (.int (0 : Int32)), .val (.int z)]) (fun _ => rfl) (pc' := 110) rfl (fun z0 hz => ?_)
        subst z0
        refine s_aload H at_110 rfl rfl (pc' := 112) rfl ?_
        refine s_alenI H at_112 (i := 0) rfl (z := (4 : Int32)) rfl (pc' := 113) rfl ?_
        refine s_iload H at_113 rfl (pc' := 115) rfl ?_
        refine s_icmp H at_115 (py := 120) (pc' := 118) q_eq (by decide) rfl (fun c115 => ?_) (fun c115 => ?_)
        · refine s_aload H at_120 rfl rfl (pc' := 122) rfl ?_
          refine s_iconst H at_122 (z := (0 : Int32)) (by decide) (pc' := 123) rfl ?_
          refine s_baload H at_123 (i := 0) rfl (x := (cc.toInt8.toInt32)) (by decide) (jn := 0) (by decide) rfl (pc' := 124) rfl ?_
          refine s_sipush H at_124 (z := (255 : Int32)) (by decide) (pc' := 127) rfl ?_
          refine s_iand H at_127 (pc' := 128) rfl ?_
          refine s_iload H at_128 rfl (pc' := 130) rfl ?_
          refine s_icmp H at_130 (py := 135) (pc' := 133) q_eq (by decide) rfl (fun c130 => ?_) (fun c130 => ?_)
          · refine s_aload H at_135 rfl rfl (pc' := 137) rfl ?_
            refine s_iconst H at_137 (z := (1 : Int32)) (by decide) (pc' := 138) rfl ?_
            refine s_baload H at_138 (i := 0) rfl (x := (i1.toInt8.toInt32)) (by decide) (jn := 1) (by decide) rfl (pc' := 139) rfl ?_
            refine s_sipush H at_139 (z := (255 : Int32)) (by decide) (pc' := 142) rfl ?_
            refine s_iand H at_142 (pc' := 143) rfl ?_
            refine s_iloadn H at_143 rfl (pc' := 144) rfl ?_
            refine s_sipush H at_144 (z := (255 : Int32)) (by decide) (pc' := 147) rfl ?_
            refine s_iand H at_147 (pc' := 148) rfl ?_
            refine s_icmp H at_148 (py := 153) (pc' := 151) q_eq (by decide) rfl (fun c148 => ?_) (fun c148 => ?_)
            · refine s_aload H at_153 rfl rfl (pc' := 155) rfl ?_
              refine s_iconst H at_155 (z := (2 : Int32)) (by decide) (pc' := 156) rfl ?_
              refine s_baload H at_156 (i := 0) rfl (x := ((((4 : Int32).toUInt32 >>> ((8 : Int32) &&& 31).toUInt32).toInt32).toInt8.toInt32)) (by decide) (jn := 2) (by decide) rfl (pc' := 157) rfl ?_
              refine s_sipush H at_157 (z := (255 : Int32)) (by decide) (pc' := 160) rfl ?_
              refine s_iand H at_160 (pc' := 161) rfl ?_
              refine s_bipush H at_161 (z := (8 : Int32)) (by decide) (pc' := 163) rfl ?_
              refine s_ishl H at_163 (pc' := 164) rfl ?_
              refine s_aload H at_164 rfl rfl (pc' := 166) rfl ?_
              refine s_iconst H at_166 (z := (3 : Int32)) (by decide) (pc' := 167) rfl ?_
              refine s_baload H at_167 (i := 0) rfl (x := ((4 : Int32).toInt8.toInt32)) (by decide) (jn := 3) (by decide) rfl (pc' := 168) rfl ?_
              refine s_sipush H at_168 (z := (255 : Int32)) (by decide) (pc' := 171) rfl ?_
              refine s_iand H at_171 (pc' := 172) rfl ?_
              refine s_ior H at_172 (pc' := 173) rfl ?_
              refine s_iload H at_173 rfl (pc' := 175) rfl ?_
              refine s_icmp H at_175 (py := 180) (pc' := 178) q_eq (by decide) rfl (fun c175 => ?_) (fun c175 => ?_)
              · refine s_iload H at_180 rfl (pc' := 182) rfl ?_
                refine s_if H at_182 (py := 187) (pc' := 185) z_ne (by decide) rfl (fun c182 => ?_) (fun c182 => ?_)
                · exact absurd c182 (by decide)
                · refine s_iconst H at_185 (z := (1 : Int32)) (by decide) (pc' := 186) rfl ?_
                  exact s_iret H at_186 rfl (by simp) (by decide) (by decide) (rfl)
              · exact absurd (by decide) c175
            · exact absurd (own_b255 i1) c148
          · exact absurd (own_code hc0 hc7) c130
        · exact absurd c115 (by decide)
      · exact absurd c97 (by decide)
    · exact absurd (Or.inr (Classical.not_not.mp c85)) hc
set_option maxRecDepth 65536 in
set_option maxHeartbeats 40000000 in
theorem s36_7_1 {Z : State} {k : Cx} {i0 i1 i2 i3 d0 d1 d2 : Int32} {i4 : Int64} (H : Ok Z k room_1 (LQ) x code maxLocals ret) (h0 : nar .byte d0 = d0) (h1 : nar .byte d1 = d1) (h2 : nar .byte d2 = d2) : Go Z k 0 0 ([] : Hp) 36 #[.val (.int i0), .val (.int i1), .val (.int i2), .val (.int i3), .val (.long i4), .second, .val (.int (1 : Int32)), .val (.int (7 : Int32)), .val (.int d0), .val (.int d1), .val (.int d2), .unset, .unset, .unset, .unset, .unset, .unset] [] := by
  refine s_iload H at_36 rfl (pc' := 38) rfl ?_
  refine s_iload H at_38 rfl (pc' := 40) rfl ?_
  refine s_iload H at_40 rfl (pc' := 42) rfl ?_
  refine s_iload H at_42 rfl (pc' := 44) rfl ?_
  refine s_static H (met_md7 H.tb d0 d1 d2 h0 h1 h2) at_44 (mem (i := 0) rfl) (mem (i := 1) rfl) (mem (i := 2) rfl) (mem (i := 3) rfl) (by decide) pd_1 rfl (rest := []) rfl rfl (by decide) (Nat.le_of_ble_eq_true rfl) (cn' := 1) (sn' := 4) rfl rfl (by decide) (by decide) (pc' := 47) rfl (fun _ _ hq => ?_)
  obtain ⟨da, rfl, rfl⟩ := hq
  show Go Z k 1 4 ((da, ArI Z .byte ([d0, d1, d2, d1] : List Int32)) :: []) 47 #[.val (.int i0), .val (.int i1), .val (.int i2), .val (.int i3), .val (.long i4), .second, .val (.int (1 : Int32)), .val (.int (7 : Int32)), .val (.int d0), .val (.int d1), .val (.int d2), .unset, .unset, .unset, .unset, .unset, .unset] [(.ref da)]
  refine s_astore H at_47 (L' := #[.val (.int i0), .val (.int i1), .val (.int i2), .val (.int i3), .val (.long i4), .second, .val (.int (1 : Int32)), .val (.int (7 : Int32)), .val (.int d0), .val (.int d1), .val (.int d2), .val (.ref da), .unset, .unset, .unset, .unset, .unset]) rfl rfl (pc' := 49) rfl ?_
  refine s_aload H at_49 rfl rfl (pc' := 51) rfl ?_
  refine s_alenI H at_51 (i := 0) rfl (z := (4 : Int32)) rfl (pc' := 52) rfl ?_
  refine s_istore H at_52 (L' := fun z => #[.val (.int i0), .val (.int i1), .val (.int i2), .val (.int i3), .val (.long i4), .second, .val (.int (1 : Int32)), .val (.int (7 : Int32)), .val (.int d0), .val (.int d1), .val (.int d2), .val (.ref da), .val (.int z), .unset, .unset, .unset, .unset]) (fun _ => rfl) (pc' := 54) rfl (fun z0 hz => ?_)
  subst z0
  refine s_new H (C := "com/example/quintet/quintet/EapPacket") [("com/example/quintet/quintet/EapPacket", "code", "I", (.int (0 : Int32))), ("com/example/quintet/quintet/EapPacket", "identifier", "I", (.int (0 : Int32))), ("com/example/quintet/quintet/EapPacket", "type", "I", (.int (0 : Int32))), ("com/example/quintet/quintet/EapPacket", "data", "[B", .null)] at_54 (mem (i := 5) rfl) (mem (i := 6) rfl) (mem (i := 7) rfl) (allC ⟨Or.inr (mem (i := 20) rfl), .int, by decide, rfl⟩ (allC ⟨Or.inr (mem (i := 22) rfl), .int, by decide, rfl⟩ (allC ⟨Or.inr (mem (i := 24) rfl), .int, by decide, rfl⟩ (allC ⟨Or.inr (mem (i := 26) rfl), (.array .byte), by decide, rfl⟩ allN)))) (by decide) (cn' := 2) (sn' := 8) rfl rfl (by decide) (by decide) (pc' := 57) rfl (fun a1 => ?_)
  refine s_dup H at_57 rfl (pc' := 58) rfl ?_
  refine s_iload H at_58 rfl (pc' := 60) rfl ?_
  refine s_iloadn H at_60 rfl (pc' := 61) rfl ?_
  refine s_iloadn H at_61 rfl (pc' := 62) rfl ?_
  refine s_aload H at_62 rfl rfl (pc' := 64) rfl ?_
  refine s_init H (met_ei H.tb a1 da (1 : Int32) i1 i2) at_64 rfl (mem (i := 8) rfl) (mem (i := 9) rfl) (mem (i := 7) rfl) (mem (i := 10) rfl) (by decide) pd_2 rfl (rest := [(.ref a1)]) rfl rfl (by decide) (Nat.le_of_ble_eq_true rfl) (cn' := 2) (sn' := 8) rfl rfl (by decide) (by decide) (pc' := 67) rfl (fun _ _ hq => ?_)
  obtain ⟨rfl, rfl⟩ := hq
  show Go Z k 2 8 ((a1, Obj Z "com/example/quintet/quintet/EapPacket" [("com/example/quintet/quintet/EapPacket", "code", "I", (.int (1 : Int32))), ("com/example/quintet/quintet/EapPacket", "identifier", "I", (.int i1)), ("com/example/quintet/quintet/EapPacket", "type", "I", (.int i2)), ("com/example/quintet/quintet/EapPacket", "data", "[B", (.ref da))]) :: (da, ArI Z .byte ([d0, d1, d2, d1] : List Int32)) :: []) 67 #[.val (.int i0), .val (.int i1), .val (.int i2), .val (.int i3), .val (.long i4), .second, .val (.int (1 : Int32)), .val (.int (7 : Int32)), .val (.int d0), .val (.int d1), .val (.int d2), .val (.ref da), .val (.int (4 : Int32)), .unset, .unset, .unset, .unset] [(.ref a1)]
  refine s_astore H at_67 (L' := #[.val (.int i0), .val (.int i1), .val (.int i2), .val (.int i3), .val (.long i4), .second, .val (.int (1 : Int32)), .val (.int (7 : Int32)), .val (.int d0), .val (.int d1), .val (.int d2), .val (.ref da), .val (.int (4 : Int32)), .val (.ref a1), .unset, .unset, .unset]) rfl rfl (pc' := 69) rfl ?_
  refine s_aload H at_69 rfl rfl (pc' := 71) rfl ?_
  refine s_virtual H (met_byt H.tb a1 da (1 : Int32) i1 i2 ([d0, d1, d2, d1] : List Int32) (by decide) (Nat.le_of_ble_eq_true rfl)) at_71 (i := 0) rfl (mem (i := 27) rfl) (mem (i := 28) rfl) (mem (i := 30) rfl) (mem (i := 29) rfl) (mem (i := 7) rfl) (mem (i := 31) rfl) (by decide) pd_5 rfl (rest := []) rfl rfl (by decide) (Nat.le_of_ble_eq_true rfl) (cn' := 3) (sn' := 313) rfl rfl (by decide) (by decide) (pc' := 74) rfl (fun _ _ hq => ?_)
  obtain ⟨ou, rfl, rfl⟩ := hq
  show Go Z k 3 313 ((ou, ArI Z .byte ([((1 : Int32).toInt8.toInt32), (i1.toInt8.toInt32), ((((9 : Nat).toInt32.toUInt32 >>> ((8 : Int32) &&& 31).toUInt32).toInt32).toInt8.toInt32), ((9 : Nat).toInt32.toInt8.toInt32), (i2.toInt8.toInt32), d0, d1, d2, d1] : List Int32)) :: (a1, Obj Z "com/example/quintet/quintet/EapPacket" [("com/example/quintet/quintet/EapPacket", "code", "I", (.int (1 : Int32))), ("com/example/quintet/quintet/EapPacket", "identifier", "I", (.int i1)), ("com/example/quintet/quintet/EapPacket", "type", "I", (.int i2)), ("com/example/quintet/quintet/EapPacket", "data", "[B", (.ref da))]) :: (da, ArI Z .byte ([d0, d1, d2, d1] : List Int32)) :: []) 74 #[.val (.int i0), .val (.int i1), .val (.int i2), .val (.int i3), .val (.long i4), .second, .val (.int (1 : Int32)), .val (.int (7 : Int32)), .val (.int d0), .val (.int d1), .val (.int d2), .val (.ref da), .val (.int (4 : Int32)), .val (.ref a1), .unset, .unset, .unset] [(.ref ou)]
  refine s_astore H at_74 (L' := #[.val (.int i0), .val (.int i1), .val (.int i2), .val (.int i3), .val (.long i4), .second, .val (.int (1 : Int32)), .val (.int (7 : Int32)), .val (.int d0), .val (.int d1), .val (.int d2), .val (.ref da), .val (.int (4 : Int32)), .val (.ref a1), .val (.ref ou), .unset, .unset]) rfl rfl (pc' := 76) rfl ?_
  refine s_iload H at_76 rfl (pc' := 78) rfl ?_
  refine s_iconst H at_78 (z := (1 : Int32)) (by decide) (pc' := 79) rfl ?_
  refine s_icmp H at_79 (py := 88) (pc' := 82) q_eq (by decide) rfl (fun c79 => ?_) (fun c79 => ?_)
  · refine s_iconst H at_88 (z := (1 : Int32)) (by decide) (pc' := 89) rfl ?_
    refine s_goto H at_89 (pc' := 93) (by decide) ?_
    refine s_istore H at_93 (L' := fun z => #[.val (.int i0), .val (.int i1), .val (.int i2), .val (.int i3), .val (.long i4), .second, .val (.int (1 : Int32)), .val (.int (7 : Int32)), .val (.int d0), .val (.int d1), .val (.int d2), .val (.ref da), .val (.int (4 : Int32)), .val (.ref a1), .val (.ref ou), .val (.int z), .unset]) (fun _ => rfl) (pc' := 95) rfl (fun z0 hz => ?_)
    subst z0
    refine s_iload H at_95 rfl (pc' := 97) rfl ?_
    refine s_if H at_97 (py := 107) (pc' := 100) z_eq (by decide) rfl (fun c97 => ?_) (fun c97 => ?_)
    · exact absurd c97 (by decide)
    · refine s_iconst H at_100 (z := (5 : Int32)) (by decide) (pc' := 101) rfl ?_
      refine s_iload H at_101 rfl (pc' := 103) rfl ?_
      refine s_iadd H at_103 (pc' := 104) rfl ?_
      refine s_goto H at_104 (pc' := 108) (by decide) ?_
      refine s_istore H at_108 (L' := fun z => #[.val (.int i0), .val (.int i1), .val (.int i2), .val (.int i3), .val (.long i4), .second, .val (.int (1 : Int32)), .val (.int (7 : Int32)), .val (.int d0), .val (.int d1), .val (.int d2), .val (.ref da), .val (.int (4 : Int32)), .val (.ref a1), .val (.ref ou), .val (.int (1 : Int32)), .val (.int z)]) (fun _ => rfl) (pc' := 110) rfl (fun z0 hz => ?_)
      subst z0
      refine s_aload H at_110 rfl rfl (pc' := 112) rfl ?_
      refine s_alenI H at_112 (i := 0) rfl (z := (9 : Int32)) rfl (pc' := 113) rfl ?_
      refine s_iload H at_113 rfl (pc' := 115) rfl ?_
      refine s_icmp H at_115 (py := 120) (pc' := 118) q_eq (by decide) rfl (fun c115 => ?_) (fun c115 => ?_)
      · refine s_aload H at_120 rfl rfl (pc' := 122) rfl ?_
        refine s_iconst H at_122 (z := (0 : Int32)) (by decide) (pc' := 123) rfl ?_
        refine s_baload H at_123 (i := 0) rfl (x := ((1 : Int32).toInt8.toInt32)) (by decide) (jn := 0) (by decide) rfl (pc' := 124) rfl ?_
        refine s_sipush H at_124 (z := (255 : Int32)) (by decide) (pc' := 127) rfl ?_
        refine s_iand H at_127 (pc' := 128) rfl ?_
        refine s_iload H at_128 rfl (pc' := 130) rfl ?_
        refine s_icmp H at_130 (py := 135) (pc' := 133) q_eq (by decide) rfl (fun c130 => ?_) (fun c130 => ?_)
        · refine s_aload H at_135 rfl rfl (pc' := 137) rfl ?_
          refine s_iconst H at_137 (z := (1 : Int32)) (by decide) (pc' := 138) rfl ?_
          refine s_baload H at_138 (i := 0) rfl (x := (i1.toInt8.toInt32)) (by decide) (jn := 1) (by decide) rfl (pc' := 139) rfl ?_
          refine s_sipush H at_139 (z := (255 : Int32)) (by decide) (pc' := 142) rfl ?_
          refine s_iand H at_142 (pc' := 143) rfl ?_
          refine s_iloadn H at_143 rfl (pc' := 144) rfl ?_
          refine s_sipush H at_144 (z := (255 : Int32)) (by decide) (pc' := 147) rfl ?_
          refine s_iand H at_147 (pc' := 148) rfl ?_
          refine s_icmp H at_148 (py := 153) (pc' := 151) q_eq (by decide) rfl (fun c148 => ?_) (fun c148 => ?_)
          · refine s_aload H at_153 rfl rfl (pc' := 155) rfl ?_
            refine s_iconst H at_155 (z := (2 : Int32)) (by decide) (pc' := 156) rfl ?_
            refine s_baload H at_156 (i := 0) rfl (x := ((((9 : Nat).toInt32.toUInt32 >>> ((8 : Int32) &&& 31).toUInt32).toInt32).toInt8.toInt32)) (by decide) (jn := 2) (by decide) rfl (pc' := 157) rfl ?_
            refine s_sipush H at_157 (z := (255 : Int32)) (by decide) (pc' := 160) rfl ?_
            refine s_iand H at_160 (pc' := 161) rfl ?_
            refine s_bipush H at_161 (z := (8 : Int32)) (by decide) (pc' := 163) rfl ?_
            refine s_ishl H at_163 (pc' := 164) rfl ?_
            refine s_aload H at_164 rfl rfl (pc' := 166) rfl ?_
            refine s_iconst H at_166 (z := (3 : Int32)) (by decide) (pc' := 167) rfl ?_
            refine s_baload H at_167 (i := 0) rfl (x := ((9 : Nat).toInt32.toInt8.toInt32)) (by decide) (jn := 3) (by decide) rfl (pc' := 168) rfl ?_
            refine s_sipush H at_168 (z := (255 : Int32)) (by decide) (pc' := 171) rfl ?_
            refine s_iand H at_171 (pc' := 172) rfl ?_
            refine s_ior H at_172 (pc' := 173) rfl ?_
            refine s_iload H at_173 rfl (pc' := 175) rfl ?_
            refine s_icmp H at_175 (py := 180) (pc' := 178) q_eq (by decide) rfl (fun c175 => ?_) (fun c175 => ?_)
            · refine s_iload H at_180 rfl (pc' := 182) rfl ?_
              refine s_if H at_182 (py := 187) (pc' := 185) z_ne (by decide) rfl (fun c182 => ?_) (fun c182 => ?_)
              · refine s_aload H at_187 rfl rfl (pc' := 189) rfl ?_
                refine s_iconst H at_189 (z := (4 : Int32)) (by decide) (pc' := 190) rfl ?_
                refine s_baload H at_190 (i := 0) rfl (x := (i2.toInt8.toInt32)) (by decide) (jn := 4) (by decide) rfl (pc' := 191) rfl ?_
                refine s_sipush H at_191 (z := (255 : Int32)) (by decide) (pc' := 194) rfl ?_
                refine s_iand H at_194 (pc' := 195) rfl ?_
                refine s_iloadn H at_195 rfl (pc' := 196) rfl ?_
                refine s_sipush H at_196 (z := (255 : Int32)) (by decide) (pc' := 199) rfl ?_
                refine s_iand H at_199 (pc' := 200) rfl ?_
                refine s_icmp H at_200 (py := 205) (pc' := 203) q_eq (by decide) rfl (fun c200 => ?_) (fun c200 => ?_)
                · refine s_iload H at_205 rfl (pc' := 207) rfl ?_
                  refine s_iconst H at_207 (z := (3 : Int32)) (by decide) (pc' := 208) rfl ?_
                  refine s_icmp H at_208 (py := 218) (pc' := 211) q_le (by decide) rfl (fun c208 => ?_) (fun c208 => ?_)
                  · exact absurd c208 (by decide)
                  · refine s_iload H at_211 rfl (pc' := 213) rfl ?_
                    refine s_bipush H at_213 (z := (7 : Int32)) (by decide) (pc' := 215) rfl ?_
                    refine s_icmp H at_215 (py := 291) (pc' := 218) q_ne (by decide) rfl (fun c215 => ?_) (fun c215 => ?_)
                    · exact absurd c215 (by decide)
                    · refine s_iload H at_218 rfl (pc' := 220) rfl ?_
                      refine s_iconst H at_220 (z := (1 : Int32)) (by decide) (pc' := 221) rfl ?_
                      refine s_icmp H at_221 (py := 235) (pc' := 224) q_lt (by decide) rfl (fun c221 => ?_) (fun c221 => ?_)
                      · exact absurd c221 (by decide)
                      · refine s_aload H at_224 rfl rfl (pc' := 226) rfl ?_
                        refine s_iconst H at_226 (z := (5 : Int32)) (by decide) (pc' := 227) rfl ?_
                        refine s_baload H at_227 (i := 0) rfl (x := d0) (by decide) (jn := 5) (by decide) rfl (pc' := 228) rfl ?_
                        refine s_iload H at_228 rfl (pc' := 230) rfl ?_
                        refine s_icmp H at_230 (py := 235) (pc' := 233) q_eq (by decide) rfl (fun c230 => ?_) (fun c230 => ?_)
                        · refine s_iload H at_235 rfl (pc' := 237) rfl ?_
                          refine s_iconst H at_237 (z := (2 : Int32)) (by decide) (pc' := 238) rfl ?_
                          refine s_icmp H at_238 (py := 253) (pc' := 241) q_lt (by decide) rfl (fun c238 => ?_) (fun c238 => ?_)
                          · exact absurd c238 (by decide)
                          · refine s_aload H at_241 rfl rfl (pc' := 243) rfl ?_
                            refine s_bipush H at_243 (z := (6 : Int32)) (by decide) (pc' := 245) rfl ?_
                            refine s_baload H at_245 (i := 0) rfl (x := d1) (by decide) (jn := 6) (by decide) rfl (pc' := 246) rfl ?_
                            refine s_iload H at_246 rfl (pc' := 248) rfl ?_
                            refine s_icmp H at_248 (py := 253) (pc' := 251) q_eq (by decide) rfl (fun c248 => ?_) (fun c248 => ?_)
                            · refine s_iload H at_253 rfl (pc' := 255) rfl ?_
                              refine s_iconst H at_255 (z := (3 : Int32)) (by decide) (pc' := 256) rfl ?_
                              refine s_icmp H at_256 (py := 271) (pc' := 259) q_lt (by decide) rfl (fun c256 => ?_) (fun c256 => ?_)
                              · exact absurd c256 (by decide)
                              · refine s_aload H at_259 rfl rfl (pc' := 261) rfl ?_
                                refine s_bipush H at_261 (z := (7 : Int32)) (by decide) (pc' := 263) rfl ?_
                                refine s_baload H at_263 (i := 0) rfl (x := d2) (by decide) (jn := 7) (by decide) rfl (pc' := 264) rfl ?_
                                refine s_iload H at_264 rfl (pc' := 266) rfl ?_
                                refine s_icmp H at_266 (py := 271) (pc' := 269) q_eq (by decide) rfl (fun c266 => ?_) (fun c266 => ?_)
                                · refine s_iload H at_271 rfl (pc' := 273) rfl ?_
                                  refine s_iconst H at_273 (z := (4 : Int32)) (by decide) (pc' := 274) rfl ?_
                                  refine s_icmp H at_274 (py := 289) (pc' := 277) q_lt (by decide) rfl (fun c274 => ?_) (fun c274 => ?_)
                                  · exact absurd c274 (by decide)
                                  · refine s_aload H at_277 rfl rfl (pc' := 279) rfl ?_
                                    refine s_bipush H at_279 (z := (8 : Int32)) (by decide) (pc' := 281) rfl ?_
                                    refine s_baload H at_281 (i := 0) rfl (x := d1) (by decide) (jn := 8) (by decide) rfl (pc' := 282) rfl ?_
                                    refine s_iload H at_282 rfl (pc' := 284) rfl ?_
                                    refine s_icmp H at_284 (py := 289) (pc' := 287) q_eq (by decide) rfl (fun c284 => ?_) (fun c284 => ?_)
                                    · refine s_iconst H at_289 (z := (1 : Int32)) (by decide) (pc' := 290) rfl ?_
                                      exact s_iret H at_290 rfl (by simp) (by decide) (by decide) (rfl)
                                    · exact absurd rfl c284
                                · exact absurd rfl c266
                            · exact absurd rfl c248
                        · exact absurd rfl c230
                · exact absurd (own_b255 i2) c200
              · exact absurd c182 (by decide)
            · exact absurd (own_len16 ⟨9, by decide⟩) c175
          · exact absurd (own_b255 i1) c148
        · exact absurd (by decide) c130
      · exact absurd c115 (by decide)
  · exact absurd c79 (by decide)
set_option maxRecDepth 65536 in
set_option maxHeartbeats 40000000 in
theorem s36_7_2 {Z : State} {k : Cx} {i0 i1 i2 i3 d0 d1 d2 : Int32} {i4 : Int64} (H : Ok Z k room_1 (LQ) x code maxLocals ret) (h0 : nar .byte d0 = d0) (h1 : nar .byte d1 = d1) (h2 : nar .byte d2 = d2) : Go Z k 0 0 ([] : Hp) 36 #[.val (.int i0), .val (.int i1), .val (.int i2), .val (.int i3), .val (.long i4), .second, .val (.int (2 : Int32)), .val (.int (7 : Int32)), .val (.int d0), .val (.int d1), .val (.int d2), .unset, .unset, .unset, .unset, .unset, .unset] [] := by
  refine s_iload H at_36 rfl (pc' := 38) rfl ?_
  refine s_iload H at_38 rfl (pc' := 40) rfl ?_
  refine s_iload H at_40 rfl (pc' := 42) rfl ?_
  refine s_iload H at_42 rfl (pc' := 44) rfl ?_
  refine s_static H (met_md7 H.tb d0 d1 d2 h0 h1 h2) at_44 (mem (i := 0) rfl) (mem (i := 1) rfl) (mem (i := 2) rfl) (mem (i := 3) rfl) (by decide) pd_1 rfl (rest := []) rfl rfl (by decide) (Nat.le_of_ble_eq_true rfl) (cn' := 1) (sn' := 4) rfl rfl (by decide) (by decide) (pc' := 47) rfl (fun _ _ hq => ?_)
  obtain ⟨da, rfl, rfl⟩ := hq
  show Go Z k 1 4 ((da, ArI Z .byte ([d0, d1, d2, d1] : List Int32)) :: []) 47 #[.val (.int i0), .val (.int i1), .val (.int i2), .val (.int i3), .val (.long i4), .second, .val (.int (2 : Int32)), .val (.int (7 : Int32)), .val (.int d0), .val (.int d1), .val (.int d2), .unset, .unset, .unset, .unset, .unset, .unset] [(.ref da)]
  refine s_astore H at_47 (L' := #[.val (.int i0), .val (.int i1), .val (.int i2), .val (.int i3), .val (.long i4), .second, .val (.int (2 : Int32)), .val (.int (7 : Int32)), .val (.int d0), .val (.int d1), .val (.int d2), .val (.ref da), .unset, .unset, .unset, .unset, .unset]) rfl rfl (pc' := 49) rfl ?_
  refine s_aload H at_49 rfl rfl (pc' := 51) rfl ?_
  refine s_alenI H at_51 (i := 0) rfl (z := (4 : Int32)) rfl (pc' := 52) rfl ?_
  refine s_istore H at_52 (L' := fun z => #[.val (.int i0), .val (.int i1), .val (.int i2), .val (.int i3), .val (.long i4), .second, .val (.int (2 : Int32)), .val (.int (7 : Int32)), .val (.int d0), .val (.int d1), .val (.int d2), .val (.ref da), .val (.int z), .unset, .unset, .unset, .unset]) (fun _ => rfl) (pc' := 54) rfl (fun z0 hz => ?_)
  subst z0
  refine s_new H (C := "com/example/quintet/quintet/EapPacket") [("com/example/quintet/quintet/EapPacket", "code", "I", (.int (0 : Int32))), ("com/example/quintet/quintet/EapPacket", "identifier", "I", (.int (0 : Int32))), ("com/example/quintet/quintet/EapPacket", "type", "I", (.int (0 : Int32))), ("com/example/quintet/quintet/EapPacket", "data", "[B", .null)] at_54 (mem (i := 5) rfl) (mem (i := 6) rfl) (mem (i := 7) rfl) (allC ⟨Or.inr (mem (i := 20) rfl), .int, by decide, rfl⟩ (allC ⟨Or.inr (mem (i := 22) rfl), .int, by decide, rfl⟩ (allC ⟨Or.inr (mem (i := 24) rfl), .int, by decide, rfl⟩ (allC ⟨Or.inr (mem (i := 26) rfl), (.array .byte), by decide, rfl⟩ allN)))) (by decide) (cn' := 2) (sn' := 8) rfl rfl (by decide) (by decide) (pc' := 57) rfl (fun a1 => ?_)
  refine s_dup H at_57 rfl (pc' := 58) rfl ?_
  refine s_iload H at_58 rfl (pc' := 60) rfl ?_
  refine s_iloadn H at_60 rfl (pc' := 61) rfl ?_
  refine s_iloadn H at_61 rfl (pc' := 62) rfl ?_
  refine s_aload H at_62 rfl rfl (pc' := 64) rfl ?_
  refine s_init H (met_ei H.tb a1 da (2 : Int32) i1 i2) at_64 rfl (mem (i := 8) rfl) (mem (i := 9) rfl) (mem (i := 7) rfl) (mem (i := 10) rfl) (by decide) pd_2 rfl (rest := [(.ref a1)]) rfl rfl (by decide) (Nat.le_of_ble_eq_true rfl) (cn' := 2) (sn' := 8) rfl rfl (by decide) (by decide) (pc' := 67) rfl (fun _ _ hq => ?_)
  obtain ⟨rfl, rfl⟩ := hq
  show Go Z k 2 8 ((a1, Obj Z "com/example/quintet/quintet/EapPacket" [("com/example/quintet/quintet/EapPacket", "code", "I", (.int (2 : Int32))), ("com/example/quintet/quintet/EapPacket", "identifier", "I", (.int i1)), ("com/example/quintet/quintet/EapPacket", "type", "I", (.int i2)), ("com/example/quintet/quintet/EapPacket", "data", "[B", (.ref da))]) :: (da, ArI Z .byte ([d0, d1, d2, d1] : List Int32)) :: []) 67 #[.val (.int i0), .val (.int i1), .val (.int i2), .val (.int i3), .val (.long i4), .second, .val (.int (2 : Int32)), .val (.int (7 : Int32)), .val (.int d0), .val (.int d1), .val (.int d2), .val (.ref da), .val (.int (4 : Int32)), .unset, .unset, .unset, .unset] [(.ref a1)]
  refine s_astore H at_67 (L' := #[.val (.int i0), .val (.int i1), .val (.int i2), .val (.int i3), .val (.long i4), .second, .val (.int (2 : Int32)), .val (.int (7 : Int32)), .val (.int d0), .val (.int d1), .val (.int d2), .val (.ref da), .val (.int (4 : Int32)), .val (.ref a1), .unset, .unset, .unset]) rfl rfl (pc' := 69) rfl ?_
  refine s_aload H at_69 rfl rfl (pc' := 71) rfl ?_
  refine s_virtual H (met_byt H.tb a1 da (2 : Int32) i1 i2 ([d0, d1, d2, d1] : List Int32) (by decide) (Nat.le_of_ble_eq_true rfl)) at_71 (i := 0) rfl (mem (i := 27) rfl) (mem (i := 28) rfl) (mem (i := 30) rfl) (mem (i := 29) rfl) (mem (i := 7) rfl) (mem (i := 31) rfl) (by decide) pd_5 rfl (rest := []) rfl rfl (by decide) (Nat.le_of_ble_eq_true rfl) (cn' := 3) (sn' := 313) rfl rfl (by decide) (by decide) (pc' := 74) rfl (fun _ _ hq => ?_)
  obtain ⟨ou, rfl, rfl⟩ := hq
  show Go Z k 3 313 ((ou, ArI Z .byte ([((2 : Int32).toInt8.toInt32), (i1.toInt8.toInt32), ((((9 : Nat).toInt32.toUInt32 >>> ((8 : Int32) &&& 31).toUInt32).toInt32).toInt8.toInt32), ((9 : Nat).toInt32.toInt8.toInt32), (i2.toInt8.toInt32), d0, d1, d2, d1] : List Int32)) :: (a1, Obj Z "com/example/quintet/quintet/EapPacket" [("com/example/quintet/quintet/EapPacket", "code", "I", (.int (2 : Int32))), ("com/example/quintet/quintet/EapPacket", "identifier", "I", (.int i1)), ("com/example/quintet/quintet/EapPacket", "type", "I", (.int i2)), ("com/example/quintet/quintet/EapPacket", "data", "[B", (.ref da))]) :: (da, ArI Z .byte ([d0, d1, d2, d1] : List Int32)) :: []) 74 #[.val (.int i0), .val (.int i1), .val (.int i2), .val (.int i3), .val (.long i4), .second, .val (.int (2 : Int32)), .val (.int (7 : Int32)), .val (.int d0), .val (.int d1), .val (.int d2), .val (.ref da), .val (.int (4 : Int32)), .val (.ref a1), .unset, .unset, .unset] [(.ref ou)]
  refine s_astore H at_74 (L' := #[.val (.int i0), .val (.int i1), .val (.int i2), .val (.int i3), .val (.long i4), .second, .val (.int (2 : Int32)), .val (.int (7 : Int32)), .val (.int d0), .val (.int d1), .val (.int d2), .val (.ref da), .val (.int (4 : Int32)), .val (.ref a1), .val (.ref ou), .unset, .unset]) rfl rfl (pc' := 76) rfl ?_
  refine s_iload H at_76 rfl (pc' := 78) rfl ?_
  refine s_iconst H at_78 (z := (1 : Int32)) (by decide) (pc' := 79) rfl ?_
  refine s_icmp H at_79 (py := 88) (pc' := 82) q_eq (by decide) rfl (fun c79 => ?_) (fun c79 => ?_)
  · exact absurd c79 (by decide)
  · refine s_iload H at_82 rfl (pc' := 84) rfl ?_
    refine s_iconst H at_84 (z := (2 : Int32)) (by decide) (pc' := 85) rfl ?_
    refine s_icmp H at_85 (py := 92) (pc' := 88) q_ne (by decide) rfl (fun c85 => ?_) (fun c85 => ?_)
    · exact absurd c85 (by decide)
    · refine s_iconst H at_88 (z := (1 : Int32)) (by decide) (pc' := 89) rfl ?_
      refine s_goto H at_89 (pc' := 93) (by decide) ?_
      refine s_istore H at_93 (L' := fun z => #[.val (.int i0), .val (.int i1), .val (.int i2), .val (.int i3), .val (.long i4), .second, .val (.int (2 : Int32)), .val (.int (7 : Int32)), .val (.int d0), .val (.int d1), .val (.int d2), .val (.ref da), .val (.int (4 : Int32)), .val (.ref a1), .val (.ref ou), .val (.int z), .unset]) (fun _ => rfl) (pc' := 95) rfl (fun z0 hz => ?_)
      subst z0
      refine s_iload H at_95 rfl (pc' := 97) rfl ?_
      refine s_if H at_97 (py := 107) (pc' := 100) z_eq (by decide) rfl (fun c97 => ?_) (fun c97 => ?_)
      · exact absurd c97 (by decide)
      · refine s_iconst H at_100 (z := (5 : Int32)) (by decide) (pc' := 101) rfl ?_
        refine s_iload H at_101 rfl (pc' := 103) rfl ?_
        refine s_iadd H at_103 (pc' := 104) rfl ?_
        refine s_goto H at_104 (pc' := 108) (by decide) ?_
        refine s_istore H at_108 (L' := fun z => #[.val (.int i0), .val (.int i1), .val (.int i2), .val (.int i3), .val (.long i4), .second, .val (.int (2 : Int32)), .val (.int (7 : Int32)), .val (.int d0), .val (.int d1), .val (.int d2), .val (.ref da), .val (.int (4 : Int32)), .val (.ref a1), .val (.ref ou), .val (.int (1 : Int32)), .val (.int z)]) (fun _ => rfl) (pc' := 110) rfl (fun z0 hz => ?_)
        subst z0
        refine s_aload H at_110 rfl rfl (pc' := 112) rfl ?_
        refine s_alenI H at_112 (i := 0) rfl (z := (9 : Int32)) rfl (pc' := 113) rfl ?_
        refine s_iload H at_113 rfl (pc' := 115) rfl ?_
        refine s_icmp H at_115 (py := 120) (pc' := 118) q_eq (by decide) rfl (fun c115 => ?_) (fun c115 => ?_)
        · refine s_aload H at_120 rfl rfl (pc' := 122) rfl ?_
          refine s_iconst H at_122 (z := (0 : Int32)) (by decide) (pc' := 123) rfl ?_
          refine s_baload H at_123 (i := 0) rfl (x := ((2 : Int32).toInt8.toInt32)) (by decide) (jn := 0) (by decide) rfl (pc' := 124) rfl ?_
          refine s_sipush H at_124 (z := (255 : Int32)) (by decide) (pc' := 127) rfl ?_
          refine s_iand H at_127 (pc' := 128) rfl ?_
          refine s_iload H at_128 rfl (pc' := 130) rfl ?_
          refine s_icmp H at_130 (py := 135) (pc' := 133) q_eq (by decide) rfl (fun c130 => ?_) (fun c130 => ?_)
          · refine s_aload H at_135 rfl rfl (pc' := 137) rfl ?_
            refine s_iconst H at_137 (z := (1 : Int32)) (by decide) (pc' := 138) rfl ?_
            refine s_baload H at_138 (i := 0) rfl (x := (i1.toInt8.toInt32)) (by decide) (jn := 1) (by decide) rfl (pc' := 139) rfl ?_
            refine s_sipush H at_139 (z := (255 : Int32)) (by decide) (pc' := 142) rfl ?_
            refine s_iand H at_142 (pc' := 143) rfl ?_
            refine s_iloadn H at_143 rfl (pc' := 144) rfl ?_
            refine s_sipush H at_144 (z := (255 : Int32)) (by decide) (pc' := 147) rfl ?_
            refine s_iand H at_147 (pc' := 148) rfl ?_
            refine s_icmp H at_148 (py := 153) (pc' := 151) q_eq (by decide) rfl (fun c148 => ?_) (fun c148 => ?_)
            · refine s_aload H at_153 rfl rfl (pc' := 155) rfl ?_
              refine s_iconst H at_155 (z := (2 : Int32)) (by decide) (pc' := 156) rfl ?_
              refine s_baload H at_156 (i := 0) rfl (x := ((((9 : Nat).toInt32.toUInt32 >>> ((8 : Int32) &&& 31).toUInt32).toInt32).toInt8.toInt32)) (by decide) (jn := 2) (by decide) rfl (pc' := 157) rfl ?_
              refine s_sipush H at_157 (z := (255 : Int32)) (by decide) (pc' := 160) rfl ?_
              refine s_iand H at_160 (pc' := 161) rfl ?_
              refine s_bipush H at_161 (z := (8 : Int32)) (by decide) (pc' := 163) rfl ?_
              refine s_ishl H at_163 (pc' := 164) rfl ?_
              refine s_aload H at_164 rfl rfl (pc' := 166) rfl ?_
              refine s_iconst H at_166 (z := (3 : Int32)) (by decide) (pc' := 167) rfl ?_
              refine s_baload H at_167 (i := 0) rfl (x := ((9 : Nat).toInt32.toInt8.toInt32)) (by decide) (jn := 3) (by decide) rfl (pc' := 168) rfl ?_
              refine s_sipush H at_168 (z := (255 : Int32)) (by decide) (pc' := 171) rfl ?_
              refine s_iand H at_171 (pc' := 172) rfl ?_
              refine s_ior H at_172 (pc' := 173) rfl ?_
              refine s_iload H at_173 rfl (pc' := 175) rfl ?_
              refine s_icmp H at_175 (py := 180) (pc' := 178) q_eq (by decide) rfl (fun c175 => ?_) (fun c175 => ?_)
              · refine s_iload H at_180 rfl (pc' := 182) rfl ?_
                refine s_if H at_182 (py := 187) (pc' := 185) z_ne (by decide) rfl (fun c182 => ?_) (fun c182 => ?_)
                · refine s_aload H at_187 rfl rfl (pc' := 189) rfl ?_
                  refine s_iconst H at_189 (z := (4 : Int32)) (by decide) (pc' := 190) rfl ?_
                  refine s_baload H at_190 (i := 0) rfl (x := (i2.toInt8.toInt32)) (by decide) (jn := 4) (by decide) rfl (pc' := 191) rfl ?_
                  refine s_sipush H at_191 (z := (255 : Int32)) (by decide) (pc' := 194) rfl ?_
                  refine s_iand H at_194 (pc' := 195) rfl ?_
                  refine s_iloadn H at_195 rfl (pc' := 196) rfl ?_
                  refine s_sipush H at_196 (z := (255 : Int32)) (by decide) (pc' := 199) rfl ?_
                  refine s_iand H at_199 (pc' := 200) rfl ?_
                  refine s_icmp H at_200 (py := 205) (pc' := 203) q_eq (by decide) rfl (fun c200 => ?_) (fun c200 => ?_)
                  · refine s_iload H at_205 rfl (pc' := 207) rfl ?_
                    refine s_iconst H at_207 (z := (3 : Int32)) (by decide) (pc' := 208) rfl ?_
                    refine s_icmp H at_208 (py := 218) (pc' := 211) q_le (by decide) rfl (fun c208 => ?_) (fun c208 => ?_)
                    · exact absurd c208 (by decide)
                    · refine s_iload H at_211 rfl (pc' := 213) rfl ?_
                      refine s_bipush H at_213 (z := (7 : Int32)) (by decide) (pc' := 215) rfl ?_
                      refine s_icmp H at_215 (py := 291) (pc' := 218) q_ne (by decide) rfl (fun c215 => ?_) (fun c215 => ?_)
                      · exact absurd c215 (by decide)
                      · refine s_iload H at_218 rfl (pc' := 220) rfl ?_
                        refine s_iconst H at_220 (z := (1 : Int32)) (by decide) (pc' := 221) rfl ?_
                        refine s_icmp H at_221 (py := 235) (pc' := 224) q_lt (by decide) rfl (fun c221 => ?_) (fun c221 => ?_)
                        · exact absurd c221 (by decide)
                        · refine s_aload H at_224 rfl rfl (pc' := 226) rfl ?_
                          refine s_iconst H at_226 (z := (5 : Int32)) (by decide) (pc' := 227) rfl ?_
                          refine s_baload H at_227 (i := 0) rfl (x := d0) (by decide) (jn := 5) (by decide) rfl (pc' := 228) rfl ?_
                          refine s_iload H at_228 rfl (pc' := 230) rfl ?_
                          refine s_icmp H at_230 (py := 235) (pc' := 233) q_eq (by decide) rfl (fun c230 => ?_) (fun c230 => ?_)
                          · refine s_iload H at_235 rfl (pc' := 237) rfl ?_
                            refine s_iconst H at_237 (z := (2 : Int32)) (by decide) (pc' := 238) rfl ?_
                            refine s_icmp H at_238 (py := 253) (pc' := 241) q_lt (by decide) rfl (fun c238 => ?_) (fun c238 => ?_)
                            · exact absurd c238 (by decide)
                            · refine s_aload H at_241 rfl rfl (pc' := 243) rfl ?_
                              refine s_bipush H at_243 (z := (6 : Int32)) (by decide) (pc' := 245) rfl ?_
                              refine s_baload H at_245 (i := 0) rfl (x := d1) (by decide) (jn := 6) (by decide) rfl (pc' := 246) rfl ?_
                              refine s_iload H at_246 rfl (pc' := 248) rfl ?_
                              refine s_icmp H at_248 (py := 253) (pc' := 251) q_eq (by decide) rfl (fun c248 => ?_) (fun c248 => ?_)
                              · refine s_iload H at_253 rfl (pc' := 255) rfl ?_
                                refine s_iconst H at_255 (z := (3 : Int32)) (by decide) (pc' := 256) rfl ?_
                                refine s_icmp H at_256 (py := 271) (pc' := 259) q_lt (by decide) rfl (fun c256 => ?_) (fun c256 => ?_)
                                · exact absurd c256 (by decide)
                                · refine s_aload H at_259 rfl rfl (pc' := 261) rfl ?_
                                  refine s_bipush H at_261 (z := (7 : Int32)) (by decide) (pc' := 263) rfl ?_
                                  refine s_baload H at_263 (i := 0) rfl (x := d2) (by decide) (jn := 7) (by decide) rfl (pc' := 264) rfl ?_
                                  refine s_iload H at_264 rfl (pc' := 266) rfl ?_
                                  refine s_icmp H at_266 (py := 271) (pc' := 269) q_eq (by decide) rfl (fun c266 => ?_) (fun c266 => ?_)
                                  · refine s_iload H at_271 rfl (pc' := 273) rfl ?_
                                    refine s_iconst H at_273 (z := (4 : Int32)) (by decide) (pc' := 274) rfl ?_
                                    refine s_icmp H at_274 (py := 289) (pc' := 277) q_lt (by decide) rfl (fun c274 => ?_) (fun c274 => ?_)
                                    · exact absurd c274 (by decide)
                                    · refine s_aload H at_277 rfl rfl (pc' := 279) rfl ?_
                                      refine s_bipush H at_279 (z := (8 : Int32)) (by decide) (pc' := 281) rfl ?_
                                      refine s_baload H at_281 (i := 0) rfl (x := d1) (by decide) (jn := 8) (by decide) rfl (pc' := 282) rfl ?_
                                      refine s_iload H at_282 rfl (pc' := 284) rfl ?_
                                      refine s_icmp H at_284 (py := 289) (pc' := 287) q_eq (by decide) rfl (fun c284 => ?_) (fun c284 => ?_)
                                      · refine s_iconst H at_289 (z := (1 : Int32)) (by decide) (pc' := 290) rfl ?_
                                        exact s_iret H at_290 rfl (by simp) (by decide) (by decide) (rfl)
                                      · exact absurd rfl c284
                                  · exact absurd rfl c266
                              · exact absurd rfl c248
                          · exact absurd rfl c230
                  · exact absurd (own_b255 i2) c200
                · exact absurd c182 (by decide)
              · exact absurd (own_len16 ⟨9, by decide⟩) c175
            · exact absurd (own_b255 i1) c148
          · exact absurd (by decide) c130
        · exact absurd c115 (by decide)
set_option maxRecDepth 65536 in
set_option maxHeartbeats 40000000 in
theorem s36_7_x {Z : State} {k : Cx} {i0 i1 i2 i3 d0 d1 d2 cc : Int32} {i4 : Int64} (H : Ok Z k room_1 (LQ) x code maxLocals ret) (h0 : nar .byte d0 = d0) (h1 : nar .byte d1 = d1) (h2 : nar .byte d2 = d2) (hc : ¬ (cc = 1 ∨ cc = 2)) (hc0 : 0 ≤ cc.toInt) (hc7 : cc.toInt ≤ 7) : Go Z k 0 0 ([] : Hp) 36 #[.val (.int i0), .val (.int i1), .val (.int i2), .val (.int i3), .val (.long i4), .second, .val (.int cc), .val (.int (7 : Int32)), .val (.int d0), .val (.int d1), .val (.int d2), .unset, .unset, .unset, .unset, .unset, .unset] [] := by
  refine s_iload H at_36 rfl (pc' := 38) rfl ?_
  refine s_iload H at_38 rfl (pc' := 40) rfl ?_
  refine s_iload H at_40 rfl (pc' := 42) rfl ?_
  refine s_iload H at_42 rfl (pc' := 44) rfl ?_
  refine s_static H (met_md7 H.tb d0 d1 d2 h0 h1 h2) at_44 (mem (i := 0) rfl) (mem (i := 1) rfl) (mem (i := 2) rfl) (mem (i := 3) rfl) (by decide) pd_1 rfl (rest := []) rfl rfl (by decide) (Nat.le_of_ble_eq_true rfl) (cn' := 1) (sn' := 4) rfl rfl (by decide) (by decide) (pc' := 47) rfl (fun _ _ hq => ?_)
  obtain ⟨da, rfl, rfl⟩ := hq
  show Go Z k 1 4 ((da, ArI Z .byte ([d0, d1, d2, d1] : List Int32)) :: []) 47 #[.val (.int i0), .val (.int i1), .val (.int i2), .val (.int i3), .val (.long i4), .second, .val (.int cc), .val (.int (7 : Int32)), .val (.int d0), .val (.int d1), .val (.int d2), .unset, .unset, .unset, .unset, .unset, .unset] [(.ref da)]
  refine s_astore H at_47 (L' := #[.val (.int i0), .val (.int i1), .val (.int i2), .val (.int i3), .val (.long i4), .second, .val (.int cc), .val (.int (7 : Int32)), .val (.int d0), .val (.int d1), .val (.int d2), .val (.ref da), .unset, .unset, .unset, .unset, .unset]) rfl rfl (pc' := 49) rfl ?_
  refine s_aload H at_49 rfl rfl (pc' := 51) rfl ?_
  refine s_alenI H at_51 (i := 0) rfl (z := (4 : Int32)) rfl (pc' := 52) rfl ?_
  refine s_istore H at_52 (L' := fun z => #[.val (.int i0), .val (.int i1), .val (.int i2), .val (.int i3), .val (.long i4), .second, .val (.int cc), .val (.int (7 : Int32)), .val (.int d0), .val (.int d1), .val (.int d2), .val (.ref da), .val (.int z), .unset, .unset, .unset, .unset]) (fun _ => rfl) (pc' := 54) rfl (fun z0 hz => ?_)
  subst z0
  refine s_new H (C := "com/example/quintet/quintet/EapPacket") [("com/example/quintet/quintet/EapPacket", "code", "I", (.int (0 : Int32))), ("com/example/quintet/quintet/EapPacket", "identifier", "I", (.int (0 : Int32))), ("com/example/quintet/quintet/EapPacket", "type", "I", (.int (0 : Int32))), ("com/example/quintet/quintet/EapPacket", "data", "[B", .null)] at_54 (mem (i := 5) rfl) (mem (i := 6) rfl) (mem (i := 7) rfl) (allC ⟨Or.inr (mem (i := 20) rfl), .int, by decide, rfl⟩ (allC ⟨Or.inr (mem (i := 22) rfl), .int, by decide, rfl⟩ (allC ⟨Or.inr (mem (i := 24) rfl), .int, by decide, rfl⟩ (allC ⟨Or.inr (mem (i := 26) rfl), (.array .byte), by decide, rfl⟩ allN)))) (by decide) (cn' := 2) (sn' := 8) rfl rfl (by decide) (by decide) (pc' := 57) rfl (fun a1 => ?_)
  refine s_dup H at_57 rfl (pc' := 58) rfl ?_
  refine s_iload H at_58 rfl (pc' := 60) rfl ?_
  refine s_iloadn H at_60 rfl (pc' := 61) rfl ?_
  refine s_iloadn H at_61 rfl (pc' := 62) rfl ?_
  refine s_aload H at_62 rfl rfl (pc' := 64) rfl ?_
  refine s_init H (met_ei H.tb a1 da cc i1 i2) at_64 rfl (mem (i := 8) rfl) (mem (i := 9) rfl) (mem (i := 7) rfl) (mem (i := 10) rfl) (by decide) pd_2 rfl (rest := [(.ref a1)]) rfl rfl (by decide) (Nat.le_of_ble_eq_true rfl) (cn' := 2) (sn' := 8) rfl rfl (by decide) (by decide) (pc' := 67) rfl (fun _ _ hq => ?_)
  obtain ⟨rfl, rfl⟩ := hq
  show Go Z k 2 8 ((a1, Obj Z "com/example/quintet/quintet/EapPacket" [("com/example/quintet/quintet/EapPacket", "code", "I", (.int cc)), ("com/example/quintet/quintet/EapPacket", "identifier", "I", (.int i1)), ("com/example/quintet/quintet/EapPacket", "type", "I", (.int i2)), ("com/example/quintet/quintet/EapPacket", "data", "[B", (.ref da))]) :: (da, ArI Z .byte ([d0, d1, d2, d1] : List Int32)) :: []) 67 #[.val (.int i0), .val (.int i1), .val (.int i2), .val (.int i3), .val (.long i4), .second, .val (.int cc), .val (.int (7 : Int32)), .val (.int d0), .val (.int d1), .val (.int d2), .val (.ref da), .val (.int (4 : Int32)), .unset, .unset, .unset, .unset] [(.ref a1)]
  refine s_astore H at_67 (L' := #[.val (.int i0), .val (.int i1), .val (.int i2), .val (.int i3), .val (.long i4), .second, .val (.int cc), .val (.int (7 : Int32)), .val (.int d0), .val (.int d1), .val (.int d2), .val (.ref da), .val (.int (4 : Int32)), .val (.ref a1), .unset, .unset, .unset]) rfl rfl (pc' := 69) rfl ?_
  refine s_aload H at_69 rfl rfl (pc' := 71) rfl ?_
  refine s_virtual H (met_byf H.tb a1 da cc i1 i2 ([d0, d1, d2, d1] : List Int32) hc) at_71 (i := 0) rfl (mem (i := 27) rfl) (mem (i := 28) rfl) (mem (i := 30) rfl) (mem (i := 29) rfl) (mem (i := 7) rfl) (mem (i := 31) rfl) (by decide) pd_5 rfl (rest := []) rfl rfl (by decide) (Nat.le_of_ble_eq_true rfl) (cn' := 3) (sn' := 12) rfl rfl (by decide) (by decide) (pc' := 74) rfl (fun _ _ hq => ?_)
  obtain ⟨ou, rfl, rfl⟩ := hq
  show Go Z k 3 12 ((ou, ArI Z .byte ([(cc.toInt8.toInt32), (i1.toInt8.toInt32), ((((4 : Int32).toUInt32 >>> ((8 : Int32) &&& 31).toUInt32).toInt32).toInt8.toInt32), ((4 : Int32).toInt8.toInt32)] : List Int32)) :: (a1, Obj Z "com/example/quintet/quintet/EapPacket" [("com/example/quintet/quintet/EapPacket", "code", "I", (.int cc)), ("com/example/quintet/quintet/EapPacket", "identifier", "I", (.int i1)), ("com/example/quintet/quintet/EapPacket", "type", "I", (.int i2)), ("com/example/quintet/quintet/EapPacket", "data", "[B", (.ref da))]) :: (da, ArI Z .byte ([d0, d1, d2, d1] : List Int32)) :: []) 74 #[.val (.int i0), .val (.int i1), .val (.int i2), .val (.int i3), .val (.long i4), .second, .val (.int cc), .val (.int (7 : Int32)), .val (.int d0), .val (.int d1), .val (.int d2), .val (.ref da), .val (.int (4 : Int32)), .val (.ref a1), .unset, .unset, .unset] [(.ref ou)]
  refine s_astore H at_74 (L' := #[.val (.int i0), .val (.int i1), .val (.int i2), .val (.int i3), .val (.long i4), .second, .val (.int cc), .val (.int (7 : Int32)), .val (.int d0), .val (.int d1), .val (.int d2), .val (.ref da), .val (.int (4 : Int32)), .val (.ref a1), .val (.ref ou), .unset, .unset]) rfl rfl (pc' := 76) rfl ?_
  refine s_iload H at_76 rfl (pc' := 78) rfl ?_
  refine s_iconst H at_78 (z := (1 : Int32)) (by decide) (pc' := 79) rfl ?_
  refine s_icmp H at_79 (py := 88) (pc' := 82) q_eq (by decide) rfl (fun c79 => ?_) (fun c79 => ?_)
  · exact absurd (Or.inl c79) hc
  · refine s_iload H at_82 rfl (pc' := 84) rfl ?_
    refine s_iconst H at_84 (z := (2 : Int32)) (by decide) (pc' := 85) rfl ?_
    refine s_icmp H at_85 (py := 92) (pc' := 88) q_ne (by decide) rfl (fun c85 => ?_) (fun c85 => ?_)
    · refine s_iconst H at_92 (z := (0 : Int32)) (by decide) (pc' := 93) rfl ?_
      refine s_istore H at_93 (L' := fun z => #[.val (.int i0), .val (.int i1), .val (.int i2), .val (.int i3), .val (.long i4), .second, .val (.int cc), .val (.int (7 : Int32)), .val (.int d0), .val (.int d1), .val (.int d2), .val (.ref da), .val (.int (4 : Int32)), .val (.ref a1), .val (.ref ou), .val (.int z), .unset]) (fun _ => rfl) (pc' := 95) rfl (fun z0 hz => ?_)
      subst z0
      refine s_iload H at_95 rfl (pc' := 97) rfl ?_
      refine s_if H at_97 (py := 107) (pc' := 100) z_eq (by decide) rfl (fun c97 => ?_) (fun c97 => ?_)
      · refine s_iconst H at_107 (z := (4 : Int32)) (by decide) (pc' := 108) rfl ?_
        refine s_istore H at_108 (L' := fun z => #[.val (.int i0), .val (.int i1), .val (.int i2), .val (.int i3), .val (.long i4), .second, .val (.int cc), .val (.int (7 : Int32)), .val (.int d0), .val (.int d1), .val (.int d2), .val (.ref da), .val (.int (4 : Int32)), .val (.ref a1), .val (.ref ou), .val (.int (0 : Int32)), .val (.int z)]) (fun _ => rfl) (pc' := 110) rfl (fun z0 hz => ?_)
        subst z0
        refine s_aload H at_110 rfl rfl (pc' := 112) rfl ?_
        refine s_alenI H at_112 (i := 0) rfl (z := (4 : Int32)) rfl (pc' := 113) rfl ?_
        refine s_iload H at_113 rfl (pc' := 115) rfl ?_
        refine s_icmp H at_115 (py := 120) (pc' := 118) q_eq (by decide) rfl (fun c115 => ?_) (fun c115 => ?_)
        · refine s_aload H at_120 rfl rfl (pc' := 122) rfl ?_
          refine s_iconst H at_122 (z := (0 : Int32)) (by decide) (pc' := 123) rfl ?_
          refine s_baload H at_123 (i := 0) rfl (x := (cc.toInt8.toInt32)) (by decide) (jn := 0) (by decide) rfl (pc' := 124) rfl ?_
          refine s_sipush H at_124 (z := (255 : Int32)) (by decide) (pc' := 127) rfl ?_
          refine s_iand H at_127 (pc' := 128) rfl ?_
          refine s_iload H at_128 rfl (pc' := 130) rfl ?_
          refine s_icmp H at_130 (py := 135) (pc' := 133) q_eq (by decide) rfl (fun c130 => ?_) (fun c130 => ?_)
          · refine s_aload H at_135 rfl rfl (pc' := 137) rfl ?_
            refine s_iconst H at_137 (z := (1 : Int32)) (by decide) (pc' := 138) rfl ?_
            refine s_baload H at_138 (i := 0) rfl (x := (i1.toInt8.toInt32)) (by decide) (jn := 1) (by decide) rfl (pc' := 139) rfl ?_
            refine s_sipush H at_139 (z := (255 : Int32)) (by decide) (pc' := 142) rfl ?_
            refine s_iand H at_142 (pc' := 143) rfl ?_
            refine s_iloadn H at_143 rfl (pc' := 144) rfl ?_
            refine s_sipush H at_144 (z := (255 : Int32)) (by decide) (pc' := 147) rfl ?_
            refine s_iand H at_147 (pc' := 148) rfl ?_
            refine s_icmp H at_148 (py := 153) (pc' := 151) q_eq (by decide) rfl (fun c148 => ?_) (fun c148 => ?_)
            · refine s_aload H at_153 rfl rfl (pc' := 155) rfl ?_
              refine s_iconst H at_155 (z := (2 : Int32)) (by decide) (pc' := 156) rfl ?_
              refine s_baload H at_156 (i := 0) rfl (x := ((((4 : Int32).toUInt32 >>> ((8 : Int32) &&& 31).toUInt32).toInt32).toInt8.toInt32)) (by decide) (jn := 2) (by decide) rfl (pc' := 157) rfl ?_
              refine s_sipush H at_157 (z := (255 : Int32)) (by decide) (pc' := 160) rfl ?_
              refine s_iand H at_160 (pc' := 161) rfl ?_
              refine s_bipush H at_161 (z := (8 : Int32)) (by decide) (pc' := 163) rfl ?_
              refine s_ishl H at_163 (pc' := 164) rfl ?_
              refine s_aload H at_164 rfl rfl (pc' := 166) rfl ?_
              refine s_iconst H at_166 (z := (3 : Int32)) (by decide) (pc' := 167) rfl ?_
              refine s_baload H at_167 (i := 0) rfl (x := ((4 : Int32).toInt8.toInt32)) (by decide) (jn := 3) (by decide) rfl (pc' := 168) rfl ?_
              refine s_sipush H at_168 (z := (255 : Int32)) (by decide) (pc' := 171) rfl ?_
              refine s_iand H at_171 (pc' := 172) rfl ?_
              refine s_ior H at_172 (pc' := 173) rfl ?_
              refine s_iload H at_173 rfl (pc' := 175) rfl ?_
              refine s_icmp H at_175 (py := 180) (pc' := 178) q_eq (by decide) rfl (fun c175 => ?_) (fun c175 => ?_)
              · refine s_iload H at_180 rfl (pc' := 182) rfl ?_
                refine s_if H at_182 (py := 187) (pc' := 185) z_ne (by decide) rfl (fun c182 => ?_) (fun c182 => ?_)
                · exact absurd c182 (by decide)
                · refine s_iconst H at_185 (z := (1 : Int32)) (by decide) (pc' := 186) rfl ?_
                  exact s_iret H at_186 rfl (by simp) (by decide) (by decide) (rfl)
              · exact absurd (by decide) c175
            · exact absurd (own_b255 i1) c148
          · exact absurd (own_code hc0 hc7) c130
        · exact absurd c115 (by decide)
      · exact absurd c97 (by decide)
    · exact absurd (Or.inr (Classical.not_not.mp c85)) hc
set_option maxRecDepth 65536 in
set_option maxHeartbeats 40000000 in
theorem s0 {Z : State} {k : Cx} {i0 i1 i2 i3 : Int32} {i4 : Int64} (H : Ok Z k room_1 (LQ) x code maxLocals ret)  : Go Z k 0 0 ([] : Hp) 0 #[.val (.int i0), .val (.int i1), .val (.int i2), .val (.int i3), .val (.long i4), .second, .unset, .unset, .unset, .unset, .unset, .unset, .unset, .unset, .unset, .unset, .unset] [] := by
  refine s_iloadn H at_0 rfl (pc' := 1) rfl ?_
  refine s_bipush H at_1 (z := (7 : Int32)) (by decide) (pc' := 3) rfl ?_
  refine s_iand H at_3 (pc' := 4) rfl ?_
  refine s_istore H at_4 (L' := fun z => #[.val (.int i0), .val (.int i1), .val (.int i2), .val (.int i3), .val (.long i4), .second, .val (.int z), .unset, .unset, .unset, .unset, .unset, .unset, .unset, .unset, .unset, .unset]) (fun _ => rfl) (pc' := 6) rfl (fun c h_c => ?_)
  refine s_iloadn H at_6 rfl (pc' := 7) rfl ?_
  refine s_bipush H at_7 (z := (7 : Int32)) (by decide) (pc' := 9) rfl ?_
  refine s_iand H at_9 (pc' := 10) rfl ?_
  refine s_istore H at_10 (L' := fun z => #[.val (.int i0), .val (.int i1), .val (.int i2), .val (.int i3), .val (.long i4), .second, .val (.int c), .val (.int z), .unset, .unset, .unset, .unset, .unset, .unset, .unset, .unset, .unset]) (fun _ => rfl) (pc' := 12) rfl (fun s h_s => ?_)
  refine s_lload H at_12 rfl (pc' := 14) rfl ?_
  refine s_l2i H at_14 (pc' := 15) rfl ?_
  refine s_i2b H at_15 (pc' := 16) rfl ?_
  refine s_istore H at_16 (L' := fun z => #[.val (.int i0), .val (.int i1), .val (.int i2), .val (.int i3), .val (.long i4), .second, .val (.int c), .val (.int s), .val (.int z), .unset, .unset, .unset, .unset, .unset, .unset, .unset, .unset]) (fun _ => rfl) (pc' := 18) rfl (fun d0 h_d0 => ?_)
  refine s_lload H at_18 rfl (pc' := 20) rfl ?_
  refine s_bipush H at_20 (z := (8 : Int32)) (by decide) (pc' := 22) rfl ?_
  refine s_lushr H at_22 (pc' := 23) rfl ?_
  refine s_l2i H at_23 (pc' := 24) rfl ?_
  refine s_i2b H at_24 (pc' := 25) rfl ?_
  refine s_istore H at_25 (L' := fun z => #[.val (.int i0), .val (.int i1), .val (.int i2), .val (.int i3), .val (.long i4), .second, .val (.int c), .val (.int s), .val (.int d0), .val (.int z), .unset, .unset, .unset, .unset, .unset, .unset, .unset]) (fun _ => rfl) (pc' := 27) rfl (fun d1 h_d1 => ?_)
  refine s_lload H at_27 rfl (pc' := 29) rfl ?_
  refine s_bipush H at_29 (z := (16 : Int32)) (by decide) (pc' := 31) rfl ?_
  refine s_lushr H at_31 (pc' := 32) rfl ?_
  refine s_l2i H at_32 (pc' := 33) rfl ?_
  refine s_i2b H at_33 (pc' := 34) rfl ?_
  refine s_istore H at_34 (L' := fun z => #[.val (.int i0), .val (.int i1), .val (.int i2), .val (.int i3), .val (.long i4), .second, .val (.int c), .val (.int s), .val (.int d0), .val (.int d1), .val (.int z), .unset, .unset, .unset, .unset, .unset, .unset]) (fun _ => rfl) (pc' := 36) rfl (fun d2 h_d2 => ?_)
  have m1 := c_mask i0 7 3 (by decide) (by decide)
  rw [← h_c] at m1
  have m2 := c_mask i3 7 3 (by decide) (by decide)
  rw [← h_s] at m2
  have q0 : nar .byte d0 = d0 := by rw [h_d0]; exact nar_i8 _
  have q1 : nar .byte d1 = d1 := by rw [h_d1]; exact nar_i8 _
  have q2 : nar .byte d2 = d2 := by rw [h_d2]; exact nar_i8 _
  have xs : s = 0 ∨ s = 1 ∨ s = 2 ∨ s = 3 ∨ s = 4 ∨ s = 5 ∨ s = 6 ∨ s = 7 := by simp only [← Int32.toInt_inj, show (0 : Int32).toInt = 0 from by decide, show (1 : Int32).toInt = 1 from by decide, show (2 : Int32).toInt = 2 from by decide, show (3 : Int32).toInt = 3 from by decide, show (4 : Int32).toInt = 4 from by decide, show (5 : Int32).toInt = 5 from by decide, show (6 : Int32).toInt = 6 from by decide, show (7 : Int32).toInt = 7 from by decide]; omega
  clear h_s m2 h_d0 h_d1 h_d2
  by_cases x1 : c = 1
  · clear m1 h_c
    subst x1
    rcases xs with rfl | rfl | rfl | rfl | rfl | rfl | rfl | rfl
    · exact s36_0_1 H q0 q1 q2
    · exact s36_1_1 H q0 q1 q2
    · exact s36_2_1 H q0 q1 q2
    · exact s36_3_1 H q0 q1 q2
    · exact s36_4_1 H q0 q1 q2
    · exact s36_5_1 H q0 q1 q2
    · exact s36_6_1 H q0 q1 q2
    · exact s36_7_1 H q0 q1 q2
  · by_cases x2 : c = 2
    · clear m1 h_c
      subst x2
      rcases xs with rfl | rfl | rfl | rfl | rfl | rfl | rfl | rfl
      · exact s36_0_2 H q0 q1 q2
      · exact s36_1_2 H q0 q1 q2
      · exact s36_2_2 H q0 q1 q2
      · exact s36_3_2 H q0 q1 q2
      · exact s36_4_2 H q0 q1 q2
      · exact s36_5_2 H q0 q1 q2
      · exact s36_6_2 H q0 q1 q2
      · exact s36_7_2 H q0 q1 q2
    · have hc : ¬ (c = 1 ∨ c = 2) := fun q => q.elim x1 x2
      rcases xs with rfl | rfl | rfl | rfl | rfl | rfl | rfl | rfl
      · exact s36_0_x H q0 q1 q2 hc (by omega) (by omega)
      · exact s36_1_x H q0 q1 q2 hc (by omega) (by omega)
      · exact s36_2_x H q0 q1 q2 hc (by omega) (by omega)
      · exact s36_3_x H q0 q1 q2 hc (by omega) (by omega)
      · exact s36_4_x H q0 q1 q2 hc (by omega) (by omega)
      · exact s36_5_x H q0 q1 q2 hc (by omega) (by omega)
      · exact s36_6_x H q0 q1 q2 hc (by omega) (by omega)
      · exact s36_7_x H q0 q1 q2 hc (by omega) (by omega)
theorem pl_0 : plainFor x = true := plainFor_of_name (by first | (simp [plainName, overriddenIn, x]; done) | decide +kernel)
set_option maxRecDepth 65536 in
set_option maxHeartbeats 40000000 in
theorem met_law {Z : State} (HT : Tb Z) (l : Launch) (ws : List Jvm.Cond) (i0 : Int32) (i1 : Int32) (i2 : Int32) (i3 : Int32) (i4 : Int64) (h0 : Heap) (hO : Own Z h0 []) :
    MetFree l x (head1 (Jvm.Cond.code x code maxLocals ret :: ws) room_1) (fun a U => a = [(.int i0), (.int i1), (.int i2), (.int i3), (.long i4)].toArray ∧ Z.Warmed39 U.vm ∧ U.heap = h0) (fun _ _ _ _ _ => True) (fun _ U o U' => ∃ v L, o = .returned v ∧ (Fr Z.heap.size L ∧ ∃ M, LQ v M ∧ Own Z U'.heap M) ∧ FrameEnd U o U' L room_1.cells room_1.slots) :=
  met_of l HT pl_0 (Ls := #[.val (.int i0), .val (.int i1), .val (.int i2), .val (.int i3), .val (.long i4), .second, .unset, .unset, .unset, .unset, .unset, .unset, .unset, .unset, .unset, .unset, .unset]) (fun m => by first | (simp [entryFrame, mkF, argsToLocals, Value.category, maxLocals]; done) | rfl) hO (fun k H => s0 H)
set_option maxRecDepth 65536 in
set_option maxHeartbeats 40000000 in
theorem comes_1 {Post : Tables → Env → Array Value → State → Outcome → State → Prop} (hpost : ∀ tb e args s v u, (limb_1_1.after args s (.returned v) u = true ∧ limb_1_2.after args s (.returned v) u = true ∧ True) → FrameEnd s (.returned v) u (Jvm.fieldLocs frame_1_writes args s ++ Jvm.arrayLocs frame_1_arrays args s ++ Jvm.staticLocs frame_1_statics s) 16 1344 → Post tb e args s (.returned v) u) :
    ArmFor flags0 classFile x code maxLocals ret World_1 tables_1 room_1 Calls_1 rest_1 Pre_1 Post := by
  intro l hfl _ _ p e ha hc hk s m args below hf hA hF happ hP
  obtain ⟨hcalls, hrest, hpre⟩ := hP
  obtain ⟨-, -, -, hnamed, -, -, -, hat⟩ := (Spec.applies_iff hf).mp happ
  obtain ⟨hg, hn⟩ := and_e (Cond.before_iff.mp (show (Jvm.Cond.and given_1 narrow_1).before args s = true from hpre))
  obtain ⟨hcnt, hg0⟩ := and_e hg
  obtain ⟨hv0, hg1⟩ := and_e hg0
  obtain ⟨hv1, hg2⟩ := and_e hg1
  obtain ⟨hv2, hg3⟩ := and_e hg2
  obtain ⟨hv3, hg4⟩ := and_e hg3
  obtain ⟨w0, w1, w2, w3, w4, rfl⟩ : ∃ w0 w1 w2 w3 w4 : Value, args = #[w0, w1, w2, w3, w4] := by
    have hs : args.size = 5 := by simpa [Cond.value, given_1] using hcnt
    obtain ⟨L⟩ := args
    match L, hs with
    | [w0, w1, w2, w3, w4], _ => exact ⟨w0, w1, w2, w3, w4, rfl⟩
  have hw := fun d (hd : d ∈ tables_1) => atoms_spec (ws := Jvm.Cond.code x code maxLocals ret :: tables_1) hat d (List.mem_cons_of_mem _ hd)
  obtain ⟨i0, ei0⟩ := is_v hv0
  obtain rfl : w0 = (.int i0) := Option.some.inj ei0
  obtain ⟨i1, ei1⟩ := is_v hv1
  obtain rfl : w1 = (.int i1) := Option.some.inj ei1
  obtain ⟨i2, ei2⟩ := is_v hv2
  obtain rfl : w2 = (.int i2) := Option.some.inj ei2
  obtain ⟨i3, ei3⟩ := is_v hv3
  obtain rfl : w3 = (.int i3) := Option.some.inj ei3
  obtain ⟨i4, ei4⟩ := isL_v hg4
  obtain rfl : w4 = (.long i4) := Option.some.inj ei4
  have hO : Own s s.heap [] := ⟨⟨Nat.le_refl _, fun _ _ q => q⟩, fun i x hx => (by cases hx), fun i j x y hx => (by cases hx)⟩
  obtain ⟨n, o, h1, h2, h3, v, L, rfl, ⟨N, M, hv, -⟩, hq⟩ := met_law (Z := s) ⟨_, hw⟩ l tables_1 i0 i1 i2 i3 i4 s.heap hO p e ha hc hk s m _ below hf ((Spec.applies_iff_loose hf).mp happ).1 ⟨rfl, State.Warmed39.refl s, rfl⟩ trivial
  obtain rfl : v = some (.int 1) := hv
  exact ⟨n, _, h1, h2, h3, hpost _ _ _ _ _ _ ⟨Cond.after_iff.mpr rfl, Cond.after_iff.mpr (eq_i res_at (Term.int_eval (1)) rfl), trivial⟩ ⟨hq.1, hq.2.1, (hq.2.2.sift fun y hy => Or.inr (N y hy)).mono (by decide) (by decide)⟩⟩
theorem main_1_1 : Claimed_1_1 := comes_1 fun _ _ _ _ _ _ h hF => ⟨h.1, hF⟩
theorem main_1_2 : Claimed_1_2 := comes_1 fun _ _ _ _ _ _ h hF => ⟨h.2.1, hF⟩
end Jvm.Pilot.@@N@@
namespace Jvm.Pilot.@@N@@
open Jvm Jvm.ClassFile Sem Op Lib Jvm.Free Jvm.Stand Jvm.Pilot.@@N@@.Jvm.D
/-! MADE BY PROGRAM (witnessworld.py) out of the Statement's table words and the real class files: 11 classes; the members and pool entries that the words name. The judged class is class 1, her method 1. -/
namespace start1
open Jvm.ClassFile
def u (s : String) : CpInfo := .utf8 (stringToUtf16 s)
/-- a pool by its gaps: so many unusable entries, then the entry; so many at the end -/
def gap : Nat → List CpInfo → List CpInfo
  | 0, r => r
  | n + 1, r => .unusable :: gap n r
def poolList (es : List (Nat × CpInfo)) (last : Nat) : List CpInfo := es.foldr (fun e r => gap e.1 (e.2 :: r)) (gap last [])
def pool (es : List (Nat × CpInfo)) (last : Nat) : Array CpInfo := ⟨poolList es last⟩
def fileOf (pool : Array CpInfo) (this : Nat) (attrs : Array Attribute := #[]) (ms : Array MethodInfo := #[]) (fl : Nat := 33) (sup : Nat := 0) (ifs : Array Nat := #[]) (fds : Array FieldInfo := #[]) : ClassFile where
  minorVersion := 0
  majorVersion := 65
  constantPool := pool
  accessFlags := fl
  thisClass := this
  superClass := sup
  interfaces := ifs
  fields := fds
  methods := ms
  attributes := attrs
def plain (name : String) (sup : Option ClassId) : Class where
  name := name
  kind := .ordinary
  loader := none
  accessFlags := 33
  super := sup
  interfaces := #[]
  cf := none
  fields := #[]
  methods := #[]
  instanceTypes := #[]
  staticTypes := #[]
  resolved := #[]
  callSites := []
  init := .initialized
  statics := none
  mirror := none

def pool0 : Array CpInfo := pool [(5, u "<init>"), (0, u "()V"), (1, .class_ 10), (1, u "java/lang/Object")] 113

def k0c0 : Code := { maxStack := 0, maxLocals := 1, code := object_method_1_code, exceptionTable := #[], attributes := #[] }
def k0m0 : Method := { name := "<init>", desc := "()V", sig := { parameters := [], returnType := none }, accessFlags := 1, code := some k0c0 }
/-- java/lang/Object -/
def k0 : Class := { plain "java/lang/Object" none with
  accessFlags := 33
  interfaces := #[]
  cf := some (fileOf pool0 8 #[] #[{ accessFlags := 1, nameIndex := 5, descriptorIndex := 6, attributes := #[] }] 33 0 #[] #[])
  fields := #[]
  methods := #[k0m0]
  instanceTypes := #[]
  staticTypes := #[]
  resolved := Array.replicate 124 none
  statics := none }

def pool1 : Array CpInfo := pool [(2, .class_ 4), (1, u "java/lang/Object"), (0, u "<init>"), (0, u "()V"), (0, .methodref 8 9), (0, .class_ 10), (0, .nameAndType 11 12), (0, u "com/example/quintet/quintet/EapPacketBytesPinLaw"), (0, u "makeData"), (0, u "(IBBB)[B"), (0, .class_ 14), (0, u "com/example/quintet/quintet/EapPacket"), (0, .methodref 13 16), (0, .nameAndType 5 17), (0, u "(III[B)V"), (0, .methodref 13 19), (0, .nameAndType 20 21), (0, u "bytes"), (0, u "()[B"), (2, u "law"), (0, u "(IIIIJ)Z")] 5

def k1m0 : Method := { name := "<init>", desc := "()V", sig := { parameters := [], returnType := none }, accessFlags := 1, code := none }
def k1c1 : Code := { maxStack := 6, maxLocals := 17, code := code, exceptionTable := #[], attributes := #[] }
def k1m1 : Method := { name := "law", desc := "(IIIIJ)Z", sig := { parameters := [.int, .int, .int, .int, .long], returnType := some .boolean }, accessFlags := 9, code := some k1c1 }
def k1c2 : Code := { maxStack := 4, maxLocals := 6, code := method_3_code, exceptionTable := #[], attributes := #[] }
def k1m2 : Method := { name := "makeData", desc := "(IBBB)[B", sig := { parameters := [.int, .byte, .byte, .byte], returnType := some (.array .byte) }, accessFlags := 10, code := some k1c2 }
/-- com/example/quintet/quintet/EapPacketBytesPinLaw -/
def k1 : Class := { plain "com/example/quintet/quintet/EapPacketBytesPinLaw" (some 0) with
  accessFlags := 49
  interfaces := #[]
  cf := some (fileOf pool1 8 #[] #[{ accessFlags := 1, nameIndex := 5, descriptorIndex := 6, attributes := #[] }, { accessFlags := 9, nameIndex := 24, descriptorIndex := 25, attributes := #[] }, { accessFlags := 10, nameIndex := 11, descriptorIndex := 12, attributes := #[] }] 49 2 #[] #[])
  fields := #[]
  methods := #[k1m0, k1m1, k1m2]
  instanceTypes := #[]
  staticTypes := #[]
  resolved := Array.replicate 31 none
  statics := none }

def pool2 : Array CpInfo := pool [(1, .methodref 2 3), (0, .class_ 4), (0, .nameAndType 5 6), (0, u "java/lang/Object"), (0, u "<init>"), (0, u "()V"), (0, .class_ 8), (0, u "java/lang/Record")] 13

def k2c0 : Code := { maxStack := 1, maxLocals := 1, code := jdk_30_method_1_code, exceptionTable := #[], attributes := #[] }
def k2m0 : Method := { name := "<init>", desc := "()V", sig := { parameters := [], returnType := none }, accessFlags := 4, code := some k2c0 }
/-- java/lang/Record -/
def k2 : Class := { plain "java/lang/Record" (some 0) with
  accessFlags := 1057
  interfaces := #[]
  cf := some (fileOf pool2 7 #[] #[{ accessFlags := 4, nameIndex := 5, descriptorIndex := 6, attributes := #[] }] 1057 2 #[] #[])
  fields := #[]
  methods := #[k2m0]
  instanceTypes := #[]
  staticTypes := #[]
  resolved := Array.replicate 22 none
  statics := none }

def pool3 : Array CpInfo := pool [(1, .methodref 2 3), (0, .class_ 4), (0, .nameAndType 5 6), (0, u "java/lang/Record"), (0, u "<init>"), (0, u "()V"), (0, .fieldref 8 9), (0, .class_ 10), (0, .nameAndType 11 12), (0, u "com/example/quintet/quintet/EapPacket"), (0, u "code"), (0, u "I"), (0, .fieldref 8 14), (0, .nameAndType 15 12), (0, u "identifier"), (0, .fieldref 8 17), (0, .nameAndType 18 12), (0, u "type"), (0, .fieldref 8 20), (0, .nameAndType 21 22), (0, u "data"), (0, u "[B"), (9, .methodref 8 33), (0, .nameAndType 34 35), (0, u "typed"), (0, u "(I)Z"), (12, u "(III[B)V"), (0, .methodref 50 51), (0, .class_ 52), (0, .nameAndType 53 54), (0, u "java/lang/System"), (0, u "arraycopy"), (0, u "(Ljava/lang/Object;ILjava/lang/Object;II)V"), (12, u "REQUEST"), (2, u "RESPONSE"), (1, u "SUCCESS"), (1, u "FAILURE"), (1, u "IDENTITY"), (0, u "NAK"), (0, u "HEADER_BYTES"), (10, u "bytes"), (0, u "()[B")] 27

def k3c0 : Code := { maxStack := 2, maxLocals := 5, code := prog_17_method_1_code, exceptionTable := #[], attributes := #[] }
def k3m0 : Method := { name := "<init>", desc := "(III[B)V", sig := { parameters := [.int, .int, .int, (.array .byte)], returnType := none }, accessFlags := 0, code := some k3c0 }
def k3c1 : Code := { maxStack := 5, maxLocals := 3, code := prog_17_method_5_code, exceptionTable := #[], attributes := #[] }
def k3m1 : Method := { name := "bytes", desc := "()[B", sig := { parameters := [], returnType := some (.array .byte) }, accessFlags := 0, code := some k3c1 }
def k3c2 : Code := { maxStack := 2, maxLocals := 1, code := prog_17_method_6_code, exceptionTable := #[], attributes := #[] }
def k3m2 : Method := { name := "typed", desc := "(I)Z", sig := { parameters := [.int], returnType := some .boolean }, accessFlags := 10, code := some k3c2 }
/-- com/example/quintet/quintet/EapPacket -/
def k3 : Class := { plain "com/example/quintet/quintet/EapPacket" (some 2) with
  accessFlags := 48
  interfaces := #[]
  cf := some (fileOf pool3 8 #[] #[{ accessFlags := 0, nameIndex := 5, descriptorIndex := 48, attributes := #[] }, { accessFlags := 0, nameIndex := 89, descriptorIndex := 90, attributes := #[] }, { accessFlags := 10, nameIndex := 34, descriptorIndex := 35, attributes := #[] }] 48 2 #[] #[{ accessFlags := 18, nameIndex := 11, descriptorIndex := 12, attributes := #[] }, { accessFlags := 18, nameIndex := 15, descriptorIndex := 12, attributes := #[] }, { accessFlags := 18, nameIndex := 18, descriptorIndex := 12, attributes := #[] }, { accessFlags := 18, nameIndex := 21, descriptorIndex := 22, attributes := #[] }, { accessFlags := 24, nameIndex := 67, descriptorIndex := 12, attributes := #[] }, { accessFlags := 24, nameIndex := 70, descriptorIndex := 12, attributes := #[] }, { accessFlags := 24, nameIndex := 72, descriptorIndex := 12, attributes := #[] }, { accessFlags := 24, nameIndex := 74, descriptorIndex := 12, attributes := #[] }, { accessFlags := 24, nameIndex := 76, descriptorIndex := 12, attributes := #[] }, { accessFlags := 24, nameIndex := 77, descriptorIndex := 12, attributes := #[] }, { accessFlags := 26, nameIndex := 78, descriptorIndex := 12, attributes := #[] }])
  fields := #[{ name := "code", type := .int, accessFlags := 18, slot := 0, constantValue := 0 }, { name := "identifier", type := .int, accessFlags := 18, slot := 1, constantValue := 0 }, { name := "type", type := .int, accessFlags := 18, slot := 2, constantValue := 0 }, { name := "data", type := (.array .byte), accessFlags := 18, slot := 3, constantValue := 0 }, { name := "REQUEST", type := .int, accessFlags := 24, slot := 0, constantValue := 0 }, { name := "RESPONSE", type := .int, accessFlags := 24, slot := 1, constantValue := 0 }, { name := "SUCCESS", type := .int, accessFlags := 24, slot := 2, constantValue := 0 }, { name := "FAILURE", type := .int, accessFlags := 24, slot := 3, constantValue := 0 }, { name := "IDENTITY", type := .int, accessFlags := 24, slot := 4, constantValue := 0 }, { name := "NAK", type := .int, accessFlags := 24, slot := 5, constantValue := 0 }, { name := "HEADER_BYTES", type := .int, accessFlags := 26, slot := 6, constantValue := 0 }]
  methods := #[k3m0, k3m1, k3m2]
  instanceTypes := #[.int, .int, .int, (.array .byte)]
  staticTypes := #[.int, .int, .int, .int, .int, .int, .int]
  resolved := Array.replicate 118 none
  statics := none }

def pool4 : Array CpInfo := pool [(2, .class_ 4), (1, u "java/lang/Object"), (0, u "<init>"), (0, u "()V"), (1, .class_ 10), (1, u "java/lang/System"), (0, u "allowSecurityManager"), (0, u "I"), (16, u "cons"), (0, u "Ljava/io/Console;"), (77, .class_ 110), (1, u "java/lang/System$CallersHolder"), (43, u "initialErrStream"), (0, u "Ljava/io/PrintStream;"), (19, u "security"), (0, u "Ljava/lang/SecurityManager;"), (31, .class_ 209), (0, u "java/lang/System$1"), (7, u "props"), (0, u "Ljava/util/Properties;"), (2, u "lineSeparator"), (0, u "Ljava/lang/String;"), (96, .class_ 321), (1, u "java/lang/System$LoggerFinder"), (5, .class_ 328), (0, u "java/lang/System$Logger"), (67, u "err"), (2, u "out"), (91, u "notSupportedJnuEncoding"), (15, u "in"), (17, u "initialIn"), (0, u "Ljava/io/InputStream;"), (35, u "bootLayer"), (0, u "Ljava/lang/ModuleLayer;"), (99, .class_ 664), (0, u "java/lang/System$2"), (9, u "NEVER"), (2, u "MAYBE"), (49, u "arraycopy"), (0, u "(Ljava/lang/Object;ILjava/lang/Object;II)V"), (72, .class_ 802), (0, u "java/lang/System$Logger$Level")] 31

def k4m0 : Method := { name := "<init>", desc := "()V", sig := { parameters := [], returnType := none }, accessFlags := 2, code := none }
def k4m1 : Method := { name := "arraycopy", desc := "(Ljava/lang/Object;ILjava/lang/Object;II)V", sig := { parameters := [(.object "java/lang/Object"), .int, (.object "java/lang/Object"), .int, .int], returnType := none }, accessFlags := 265, code := none }
/-- java/lang/System -/
def k4 : Class := { plain "java/lang/System" (some 0) with
  accessFlags := 49
  interfaces := #[]
  cf := some (fileOf pool4 8 #[.nestMembers #[319, 327, 801, 108, 663, 208]] #[{ accessFlags := 2, nameIndex := 5, descriptorIndex := 6, attributes := #[] }, { accessFlags := 265, nameIndex := 727, descriptorIndex := 728, attributes := #[] }] 49 2 #[] #[{ accessFlags := 25, nameIndex := 507, descriptorIndex := 526, attributes := #[] }, { accessFlags := 25, nameIndex := 399, descriptorIndex := 155, attributes := #[] }, { accessFlags := 25, nameIndex := 396, descriptorIndex := 155, attributes := #[] }, { accessFlags := 10, nameIndex := 525, descriptorIndex := 526, attributes := #[] }, { accessFlags := 26, nameIndex := 674, descriptorIndex := 12, attributes := #[] }, { accessFlags := 26, nameIndex := 677, descriptorIndex := 12, attributes := #[] }, { accessFlags := 10, nameIndex := 11, descriptorIndex := 12, attributes := #[] }, { accessFlags := 74, nameIndex := 175, descriptorIndex := 176, attributes := #[] }, { accessFlags := 10, nameIndex := 491, descriptorIndex := 222, attributes := #[] }, { accessFlags := 74, nameIndex := 29, descriptorIndex := 30, attributes := #[] }, { accessFlags := 74, nameIndex := 154, descriptorIndex := 155, attributes := #[] }, { accessFlags := 10, nameIndex := 217, descriptorIndex := 218, attributes := #[] }, { accessFlags := 10, nameIndex := 221, descriptorIndex := 222, attributes := #[] }, { accessFlags := 8, nameIndex := 562, descriptorIndex := 563, attributes := #[] }])
  fields := #[{ name := "in", type := (.object "java/io/InputStream"), accessFlags := 25, slot := 0, constantValue := 0 }, { name := "out", type := (.object "java/io/PrintStream"), accessFlags := 25, slot := 1, constantValue := 0 }, { name := "err", type := (.object "java/io/PrintStream"), accessFlags := 25, slot := 2, constantValue := 0 }, { name := "initialIn", type := (.object "java/io/InputStream"), accessFlags := 10, slot := 3, constantValue := 0 }, { name := "NEVER", type := .int, accessFlags := 26, slot := 4, constantValue := 0 }, { name := "MAYBE", type := .int, accessFlags := 26, slot := 5, constantValue := 0 }, { name := "allowSecurityManager", type := .int, accessFlags := 10, slot := 6, constantValue := 0 }, { name := "security", type := (.object "java/lang/SecurityManager"), accessFlags := 74, slot := 7, constantValue := 0 }, { name := "notSupportedJnuEncoding", type := (.object "java/lang/String"), accessFlags := 10, slot := 8, constantValue := 0 }, { name := "cons", type := (.object "java/io/Console"), accessFlags := 74, slot := 9, constantValue := 0 }, { name := "initialErrStream", type := (.object "java/io/PrintStream"), accessFlags := 74, slot := 10, constantValue := 0 }, { name := "props", type := (.object "java/util/Properties"), accessFlags := 10, slot := 11, constantValue := 0 }, { name := "lineSeparator", type := (.object "java/lang/String"), accessFlags := 10, slot := 12, constantValue := 0 }, { name := "bootLayer", type := (.object "java/lang/ModuleLayer"), accessFlags := 8, slot := 13, constantValue := 0 }]
  methods := #[k4m0, k4m1]
  instanceTypes := #[]
  staticTypes := #[(.object "java/io/InputStream"), (.object "java/io/PrintStream"), (.object "java/io/PrintStream"), (.object "java/io/InputStream"), .int, .int, .int, (.object "java/lang/SecurityManager"), (.object "java/lang/String"), (.object "java/io/Console"), (.object "java/io/PrintStream"), (.object "java/util/Properties"), (.object "java/lang/String"), (.object "java/lang/ModuleLayer")]
  resolved := Array.replicate 834 none
  statics := none }

def pool5 : Array CpInfo := pool [(1, u "java/lang/Cloneable"), (0, .class_ 1), (0, u "java/lang/Object"), (0, .class_ 3)] 3

/-- java/lang/Cloneable -/
def k5 : Class := { plain "java/lang/Cloneable" (some 0) with
  accessFlags := 1537
  interfaces := #[]
  cf := some (fileOf pool5 2 #[] #[] 1537 4 #[] #[])
  fields := #[]
  methods := #[]
  instanceTypes := #[]
  staticTypes := #[]
  resolved := Array.replicate 8 none
  statics := none }

def pool6 : Array CpInfo := pool [(1, u "java/io/Serializable"), (0, .class_ 1), (0, u "java/lang/Object"), (0, .class_ 3)] 3

/-- java/io/Serializable -/
def k6 : Class := { plain "java/io/Serializable" (some 0) with
  accessFlags := 1537
  interfaces := #[]
  cf := some (fileOf pool6 2 #[] #[] 1537 4 #[] #[])
  fields := #[]
  methods := #[]
  instanceTypes := #[]
  staticTypes := #[]
  resolved := Array.replicate 8 none
  statics := none }

/-- the primitive byte -/
def k7 : Class := { plain "byte" none with kind := .primitive 'B', accessFlags := 0x411 }
/-- [B -/
def k8 : Class := { plain "[B" (some 0) with kind := .array 7 .byte, interfaces := #[5, 6], accessFlags := 1041 }

/-- the primitive int -/
def k9 : Class := { plain "int" none with kind := .primitive 'I', accessFlags := 0x411 }
/-- [I -/
def k10 : Class := { plain "[I" (some 0) with kind := .array 9 .int, interfaces := #[5, 6], accessFlags := 1041 }

def heap : Heap := #[]
def classes : Array Class := #[k0, k1, k2, k3, k4, k5, k6, k7, k8, k9, k10]
def interned : List (Array UInt16 × Addr) := []
def slotsUsed : Nat := 0
def theMethod : MethodId := ⟨1, 1⟩
def args0 : Array Value := #[.int 1, .int 7, .int 9, .int 2, .long 77]
def aboutOver (below : List Frame) : State where
  vm := { classes := classes, interned := interned.toArray }
  heap := heap
  slotsUsed := slotsUsed
  threads := #[{ frames := .invoking theMethod args0 :: below }]
def below0 : List Frame := [.native { method := ⟨0, 0⟩, args := #[] }]
def about1 : State := aboutOver below0
def p0 : Program := .bare "" "" ""
def e0 : Env := launch0.env 0 0 0
theorem w_frames : about1.frames = Frame.invoking theMethod args0 :: below0 := rfl
set_option maxRecDepth 65536 in
theorem w_args : argsFit about1.vm theMethod args0 = true := by decide +kernel
set_option maxRecDepth 65536 in
theorem w_heap : heapFits about1 = true := by decide +kernel
set_option maxRecDepth 65536 in
theorem w_runnable : about1.curStatus? = some .runnable := by decide +kernel
set_option maxRecDepth 65536 in
theorem w_alone : about1.alone = true := by decide +kernel
set_option maxRecDepth 65536 in
theorem w_named : about1.methodNamed? x = some theMethod := by decide +kernel
set_option maxRecDepth 65536 in
theorem w_hears : about1.hears theMethod below0 = true := by decide +kernel
set_option maxRecDepth 65536 in
theorem w_ripe : about1.ripe theMethod args0 below0 = true := by decide +kernel
theorem w_running : about1.status = .running := rfl
set_option maxRecDepth 65536 in
theorem w_room : about1.hasRoom e0.platform room_1 = true :=
  launch0.hasRoom_least _ room_1 (by decide +kernel) (by decide +kernel) (by decide +kernel) (by decide +kernel) (by decide +kernel) (by decide +kernel)
theorem allAtoms_all (ts : List Jvm.Cond) (a : Array Jvm.Value) (st : Jvm.State) : (allAtoms ts).before a st = ts.all (fun c => c.before a st) := by
  induction ts with
  | nil => rfl
  | cons c t ih =>
    show (Jvm.Cond.and c (allAtoms t)).before a st = _
    rw [Jvm.Cond.before_and, ih, List.all_cons]
def words1 : List Jvm.Cond := Jvm.Cond.code x code maxLocals ret :: tables_1
/-- a 'code' word, met by the world's own term for the bytes: nothing is compared byte by byte -/
theorem code_word {y : MethodName} {bytes : ByteArray} {mx : Nat} {rt : Option FieldType} {a : Array Value} {s : State} {m : MethodId} {meth : Method} {c : Code} (h1 : s.methodNamed? y = some m) (h2 : s.vm.method? m = some meth) (h3 : meth.code = some c) (h4 : c.code = bytes)
    (h5 : (c.maxLocals == mx && c.exceptionTable.isEmpty && decide (c.maxStack ≤ mostOperands) && decide (meth.sig.returnType = rt) && !meth.locks && decide (parseMethodDescriptor y.desc = some meth.sig)) = true) : (Jvm.Cond.code y bytes mx rt).before a s = true := by
  simp only [Bool.and_eq_true, beq_iff_eq, Bool.not_eq_true', decide_eq_true_eq] at h5
  obtain ⟨⟨⟨⟨⟨g1, g2⟩, g3⟩, g4⟩, g5⟩, g6⟩ := h5
  simp [Cond.before, Cond.holds, Cond.value, h1, h2, h3, h4, g1, g2, g3, g4, g5, g6]
def isCode : Jvm.Cond → Bool
  | .code _ _ _ _ => true
  | _ => false
theorem all_split {L : List Jvm.Cond} {P : Jvm.Cond → Bool} (h1 : L.all (fun c => isCode c || P c) = true) (h2 : ∀ c ∈ L.filter isCode, P c = true) : L.all P = true := by
  refine List.all_eq_true.mpr fun c hc => ?_
  have h := List.all_eq_true.mp h1 c hc
  rcases Bool.eq_false_or_eq_true (isCode c) with hi | hi
  · exact h2 c (List.mem_filter.mpr ⟨hc, hi⟩)
  · simpa [hi] using h
set_option maxRecDepth 65536 in
theorem w_c0 : (Jvm.Cond.code x code maxLocals ret).before args0 about1 = true := code_word (m := ⟨1, 1⟩) (meth := k1m1) (c := k1c1) (by decide +kernel) rfl rfl rfl (by decide +kernel)
set_option maxRecDepth 65536 in
theorem w_c1 : (Jvm.Cond.code ({ cls := "com/example/quintet/quintet/EapPacketBytesPinLaw", name := "makeData", desc := "(IBBB)[B" } : Jvm.MethodName) method_3_code (6 : Nat) (Option.some (Jvm.ClassFile.FieldType.array Jvm.ClassFile.FieldType.byte))).before args0 about1 = true := code_word (m := ⟨1, 2⟩) (meth := k1m2) (c := k1c2) (by decide +kernel) rfl rfl rfl (by decide +kernel)
set_option maxRecDepth 65536 in
theorem w_c2 : (Jvm.Cond.code ({ cls := "com/example/quintet/quintet/EapPacket", name := "<init>", desc := "(III[B)V" } : Jvm.MethodName) prog_17_method_1_code (5 : Nat) (Option.none : Option Jvm.ClassFile.FieldType)).before args0 about1 = true := code_word (m := ⟨3, 0⟩) (meth := k3m0) (c := k3c0) (by decide +kernel) rfl rfl rfl (by decide +kernel)
set_option maxRecDepth 65536 in
theorem w_c3 : (Jvm.Cond.code ({ cls := "java/lang/Record", name := "<init>", desc := "()V" } : Jvm.MethodName) jdk_30_method_1_code (1 : Nat) (Option.none : Option Jvm.ClassFile.FieldType)).before args0 about1 = true := code_word (m := ⟨2, 0⟩) (meth := k2m0) (c := k2c0) (by decide +kernel) rfl rfl rfl (by decide +kernel)
set_option maxRecDepth 65536 in
theorem w_c4 : (Jvm.Cond.code ({ cls := "java/lang/Object", name := "<init>", desc := "()V" } : Jvm.MethodName) object_method_1_code (1 : Nat) (Option.none : Option Jvm.ClassFile.FieldType)).before args0 about1 = true := code_word (m := ⟨0, 0⟩) (meth := k0m0) (c := k0c0) (by decide +kernel) rfl rfl rfl (by decide +kernel)
set_option maxRecDepth 65536 in
theorem w_c5 : (Jvm.Cond.code ({ cls := "com/example/quintet/quintet/EapPacket", name := "bytes", desc := "()[B" } : Jvm.MethodName) prog_17_method_5_code (3 : Nat) (Option.some (Jvm.ClassFile.FieldType.array Jvm.ClassFile.FieldType.byte))).before args0 about1 = true := code_word (m := ⟨3, 1⟩) (meth := k3m1) (c := k3c1) (by decide +kernel) rfl rfl rfl (by decide +kernel)
set_option maxRecDepth 65536 in
theorem w_c6 : (Jvm.Cond.code ({ cls := "com/example/quintet/quintet/EapPacket", name := "typed", desc := "(I)Z" } : Jvm.MethodName) prog_17_method_6_code (1 : Nat) (Option.some Jvm.ClassFile.FieldType.boolean)).before args0 about1 = true := code_word (m := ⟨3, 2⟩) (meth := k3m2) (c := k3c2) (by decide +kernel) rfl rfl rfl (by decide +kernel)
def codes1 : List Jvm.Cond := [Jvm.Cond.code x code maxLocals ret, Jvm.Cond.code ({ cls := "com/example/quintet/quintet/EapPacketBytesPinLaw", name := "makeData", desc := "(IBBB)[B" } : Jvm.MethodName) method_3_code (6 : Nat) (Option.some (Jvm.ClassFile.FieldType.array Jvm.ClassFile.FieldType.byte)), Jvm.Cond.code ({ cls := "com/example/quintet/quintet/EapPacket", name := "<init>", desc := "(III[B)V" } : Jvm.MethodName) prog_17_method_1_code (5 : Nat) (Option.none : Option Jvm.ClassFile.FieldType), Jvm.Cond.code ({ cls := "java/lang/Record", name := "<init>", desc := "()V" } : Jvm.MethodName) jdk_30_method_1_code (1 : Nat) (Option.none : Option Jvm.ClassFile.FieldType), Jvm.Cond.code ({ cls := "java/lang/Object", name := "<init>", desc := "()V" } : Jvm.MethodName) object_method_1_code (1 : Nat) (Option.none : Option Jvm.ClassFile.FieldType), Jvm.Cond.code ({ cls := "com/example/quintet/quintet/EapPacket", name := "bytes", desc := "()[B" } : Jvm.MethodName) prog_17_method_5_code (3 : Nat) (Option.some (Jvm.ClassFile.FieldType.array Jvm.ClassFile.FieldType.byte)), Jvm.Cond.code ({ cls := "com/example/quintet/quintet/EapPacket", name := "typed", desc := "(I)Z" } : Jvm.MethodName) prog_17_method_6_code (1 : Nat) (Option.some Jvm.ClassFile.FieldType.boolean)]
set_option maxRecDepth 65536 in
theorem codes_eq : words1.filter isCode = codes1 := rfl
theorem w_codes : ∀ c ∈ words1.filter isCode, c.before args0 about1 = true := by
  rw [codes_eq]
  intro c hc
  simp only [codes1, List.mem_cons, List.not_mem_nil, or_false] at hc
  rcases hc with rfl | rfl | rfl | rfl | rfl | rfl | rfl
  · exact w_c0
  · exact w_c1
  · exact w_c2
  · exact w_c3
  · exact w_c4
  · exact w_c5
  · exact w_c6
set_option maxRecDepth 65536 in
theorem w_t1 : (words1.take 24).all (fun c => isCode c || c.before args0 about1) = true := by decide +kernel
set_option maxRecDepth 65536 in
theorem w_t2 : (words1.drop 24).all (fun c => isCode c || c.before args0 about1) = true := by decide +kernel
theorem w_tables : (allAtoms (Jvm.Cond.code x code maxLocals ret :: tables_1)).before args0 about1 = true := by
  rw [allAtoms_all]
  show words1.all (fun c => c.before args0 about1) = true
  refine all_split ?_ w_codes
  rw [← List.take_append_drop 24 words1, List.all_append, w_t1, w_t2]
  rfl
set_option maxRecDepth 65536 in
theorem w_case : (Jvm.Cond.and given_1 narrow_1).before args0 about1 = true := by decide +kernel
theorem w_applies : (headSpec (Jvm.Cond.code x code maxLocals ret :: tables_1) room_1).applies x e0.platform about1 = true :=
  (Spec.applies_iff w_frames).mpr ⟨w_running, w_runnable, w_alone, w_named, w_hears, w_ripe, w_room, w_tables⟩
theorem atStart : AtStart classFile x code maxLocals ret World_1 tables_1 room_1 Calls_1 rest_1 Pre_1 launch0 p0 e0 about1 theMethod args0 below0 :=
  ⟨lists_1, trivial, launch0.admits_env _ _ _, launch0.least_env, fairChoices_fair.cas, fairChoices_fair.clock, w_frames, w_args, w_heap, w_applies, trivial, trivial, w_case⟩
end start1
theorem witness_1 : WitnessClaimed_1 := ⟨start1.p0, start1.e0, start1.about1, start1.theMethod, start1.args0, start1.below0, start1.atStart⟩
end Jvm.Pilot.@@N@@
