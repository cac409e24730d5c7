import JvmDerived
import JvmDerived.Pilot.@@N@@Statement
import JvmDerived.Pilot.@@N@@Code
set_option linter.unusedVariables false
set_option linter.unusedSimpArgs false
namespace Jvm.Pilot.@@N@@
open Jvm Jvm.ClassFile Sem Op Lib Jvm.Free Jvm.Stand Jvm.LawKit Jvm.RoadKit Bundle Jvm.Pilot.@@N@@.Jvm.D
/-! OWN KIT 1: the fresh part of the heap: a list of (address, what its cell is) -/
abbrev Hp : Type := List (Addr × (Cell → Prop))
def Own (Z : State) (h : Heap) (M : Hp) : Prop := Ext Z.heap h ∧ (∀ (i : Nat) x, M[i]? = some x → Z.heap.size ≤ x.1 ∧ ∃ c : Cell, h[x.1]? = some c ∧ x.2 c) ∧ ∀ (i j : Nat) x y, M[i]? = some x → M[j]? = some y → x.1 = y.1 → i = j
theorem Own.ch {Z : State} {h h' : Heap} {M : Hp} {i : Nat} {a : Addr} {P P' : Cell → Prop} (O : Own Z h M) (hi : M[i]? = some (a, P)) (hs : h.size ≤ h'.size) (hk : ∀ (x : Addr) (c : Cell), h[x]? = some c → x ≠ a → h'[x]? = some c) (hc : ∃ c : Cell, h'[a]? = some c ∧ P' c) : Own Z h' (M.set i (a, P')) := by
  obtain ⟨o1, o2, o3⟩ := O
  have hil : i < M.length := (List.getElem?_eq_some_iff.mp hi).1
  have key : ∀ (j : Nat) x, (M.set i (a, P'))[j]? = some x → (j = i ∧ x = (a, P')) ∨ (j ≠ i ∧ M[j]? = some x) := by
    intro j x hx
    by_cases e : j = i
    · subst e
      rw [List.getElem?_set_self hil] at hx
      exact Or.inl ⟨rfl, (Option.some.inj hx).symm⟩
    · rw [List.getElem?_set_ne (Ne.symm e)] at hx
      exact Or.inr ⟨e, hx⟩
  refine ⟨⟨Nat.le_trans o1.1 hs, fun x c hx => hk x c (o1.2 x c hx) ?_⟩, fun j x hx => ?_, fun j j' x y hx hy e => ?_⟩
  · have h1 := (Array.getElem?_eq_some_iff.mp hx).1
    have h2 := (o2 i _ hi).1
    exact Nat.ne_of_lt (Nat.lt_of_lt_of_le h1 h2)
  · rcases key j x hx with ⟨rfl, rfl⟩ | ⟨ne, hx'⟩
    · exact ⟨(o2 j _ hi).1, hc⟩
    · obtain ⟨q1, c, q2, q3⟩ := o2 j x hx'
      exact ⟨q1, c, hk _ _ q2 (fun e => ne (o3 j i _ _ hx' hi e)), q3⟩
  · rcases key j x hx with ⟨rfl, rfl⟩ | ⟨ne, hx'⟩ <;> rcases key j' y hy with ⟨rfl, rfl⟩ | ⟨ne', hy'⟩
    · rfl
    · exact o3 _ _ _ _ hi hy' e
    · exact o3 _ _ _ _ hx' hi e
    · exact o3 _ _ _ _ hx' hy' e
theorem Own.upd {Z : State} {h h' : Heap} {M : Hp} {i : Nat} {a : Addr} {P P' : Cell → Prop} {sl : Nat} {v : Value} (O : Own Z h M) (hi : M[i]? = some (a, P)) (W : Wr h h' a sl v) (q : ∀ c : Cell, h[a]? = some c → P c → P' (c.setSlot sl v)) : Own Z h' (M.set i (a, P')) := by
  refine O.ch hi (Nat.le_of_eq W.size.symm) (fun x c hx ne => ?_) ?_
  · obtain ⟨c', e1, -, -, -, e5, -⟩ := wr_at W hx
    rw [e1, e5 ne]
  · obtain ⟨-, c, h1, h2⟩ := O.2.1 i _ hi
    obtain ⟨c', e1, -, -, -, -, -, e7⟩ := wr_at W h1
    exact ⟨c', e1, by rw [(e7 rfl).1]; exact q c h1 h2⟩
theorem Own.new {Z : State} {h h' : Heap} {M : Hp} {P : Cell → Prop} {c : Cell} (O : Own Z h M) (E : Ext h h') (hc : h'[h.size]? = some c) (q : P c) : Own Z h' ((h.size, P) :: M) := by
  obtain ⟨o1, o2, o3⟩ := O
  have lt : ∀ (j : Nat) x, M[j]? = some x → x.1 < h.size := fun j x hx => by
    obtain ⟨-, c, h1, -⟩ := o2 j x hx
    exact (Array.getElem?_eq_some_iff.mp h1).1
  refine ⟨⟨Nat.le_trans o1.1 E.1, fun x c hx => E.2 _ _ (o1.2 x c hx)⟩, fun j x hx => ?_, fun j j' x y hx hy e => ?_⟩
  · cases j with
    | zero => cases hx; exact ⟨o1.1, c, hc, q⟩
    | succ j => obtain ⟨q1, c, q2, q3⟩ := o2 j x hx; exact ⟨q1, c, E.2 _ _ q2, q3⟩
  · cases j <;> cases j'
    · rfl
    · cases hx; exact absurd e (Nat.ne_of_gt (lt _ _ hy))
    · cases hy; exact absurd e (Nat.ne_of_lt (lt _ _ hx))
    · exact congrArg _ (o3 _ _ _ _ hx hy e)
theorem Own.perm {Z : State} {h : Heap} {M M' : Hp} (O : Own Z h M) (p : M.Perm M') : Own Z h M' := by
  obtain ⟨o1, o2, o3⟩ := O
  have nd : (M.map Prod.fst).Nodup := by
    rw [List.nodup_iff_pairwise_ne, List.pairwise_iff_getElem]
    intro i j hi hj lt e
    simp only [List.length_map] at hi hj
    simp only [List.getElem_map] at e
    exact absurd (o3 i j _ _ (List.getElem?_eq_getElem hi) (List.getElem?_eq_getElem hj) e) (Nat.ne_of_lt lt)
  have nd' : (M'.map Prod.fst).Nodup := (p.map _).nodup_iff.mp nd
  refine ⟨o1, fun i x hx => ?_, fun i j x y hx hy e => ?_⟩
  · obtain ⟨j, hj⟩ := List.mem_iff_getElem?.mp (p.mem_iff.mpr (List.mem_of_getElem? hx))
    exact o2 j x hj
  · rw [List.nodup_iff_pairwise_ne, List.pairwise_iff_getElem] at nd'
    obtain ⟨hi, rfl⟩ := List.getElem?_eq_some_iff.mp hx
    obtain ⟨hj, rfl⟩ := List.getElem?_eq_some_iff.mp hy
    rcases Nat.lt_trichotomy i j with lt | rfl | lt
    · exact (nd' i j (by simpa using hi) (by simpa using hj) lt (by simpa using e)).elim
    · rfl
    · exact (nd' j i (by simpa using hj) (by simpa using hi) lt (by simpa using e.symm)).elim
theorem Own.ne {Z : State} {h : Heap} {M : Hp} {i j : Nat} {a b : Addr} {P P' : Cell → Prop} (O : Own Z h M) (hi : M[i]? = some (a, P)) (hj : M[j]? = some (b, P')) (ne : i ≠ j) : a ≠ b := fun e => ne (O.2.2 i j _ _ hi hj e)
/-! what a cell is: an object of the class C with these fields; an array of ints (bytes, booleans ..), an array of longs -/
abbrev Fd : Type := String × String × String × Value
def Apart (Z : State) (fs : List Fd) : Prop := ∀ (i j : Nat) f g, fs[i]? = some f → fs[j]? = some g → Jvm.RoadKit.slotOf Z f.1 f.2.1 f.2.2.1 = Jvm.RoadKit.slotOf Z g.1 g.2.1 g.2.2.1 → i = j
def Obj (Z : State) (C : String) (fs : List Fd) (c : Cell) : Prop := (∀ (h : Heap) (a : Addr), h[a]? = some c → Exa Z h a C ∧ ∀ (i : Nat) f, fs[i]? = some f → Fld Z h a f.1 f.2.1 f.2.2.1 f.2.2.2) ∧ Apart Z fs
def ArI (Z : State) (ty : FieldType) (vs : List Int32) (c : Cell) : Prop := Z.isArrayOf c ty ∧ c.vm ≠ .unknown ∧ c.slots = (vs.map Value.int).toArray ∧ vs.length < 2 ^ 31 ∧ ∀ x ∈ vs, fits ty (.int x) = true
def ArL (Z : State) (vs : List Int64) (c : Cell) : Prop := Z.isArrayOf c .long ∧ c.vm ≠ .unknown ∧ c.slots = (vs.map Value.long).toArray ∧ vs.length < 2 ^ 31
theorem exa_at_cell {Z : State} {h h' : Heap} {a a' : Addr} {C : String} {c : Cell} (E : Exa Z h a C) (hc : h[a]? = some c) (hc' : h'[a']? = some c) : Exa Z h' a' C := by
  obtain ⟨c1, k, h1, r⟩ := E
  cases h1.symm.trans hc
  exact ⟨_, k, hc', r⟩
theorem fld_at_cell {Z : State} {h h' : Heap} {a a' : Addr} {C n d : String} {v : Value} {c : Cell} (E : Fld Z h a C n d v) (hc : h[a]? = some c) (hc' : h'[a']? = some c) : Fld Z h' a' C n d v := by
  obtain ⟨c1, cf, k, i, f, h1, r⟩ := E
  cases h1.symm.trans hc
  exact ⟨_, cf, k, i, f, hc', r⟩
theorem Obj.put {Z : State} {C O n d : String} {fs : List Fd} {c : Cell} {j : Nat} {v w : Value} (B : Obj Z C fs c) (hj : fs[j]? = some (O, n, d, w)) {h h' : Heap} {a : Addr} (hc : h[a]? = some c) (W : Wr h h' a (Jvm.RoadKit.slotOf Z O n d) v) : Obj Z C (fs.set j (O, n, d, v)) (c.setSlot (Jvm.RoadKit.slotOf Z O n d) v) := by
  obtain ⟨b1, b2⟩ := B
  have hl : j < fs.length := (List.getElem?_eq_some_iff.mp hj).1
  have key : ∀ (i : Nat) x, (fs.set j (O, n, d, v))[i]? = some x → (i = j ∧ x = (O, n, d, v)) ∨ (i ≠ j ∧ fs[i]? = some x) := by
    intro i x hx
    by_cases e : i = j
    · subst e; rw [List.getElem?_set_self hl] at hx; exact Or.inl ⟨rfl, (Option.some.inj hx).symm⟩
    · rw [List.getElem?_set_ne (Ne.symm e)] at hx; exact Or.inr ⟨e, hx⟩
  have hnew : h'[a]? = some (c.setSlot (Jvm.RoadKit.slotOf Z O n d) v) := by
    obtain ⟨c', e1, -, -, -, -, -, e7⟩ := wr_at W hc
    rw [e1, (e7 rfl).1]
  refine ⟨fun h2 a2 h2c => ⟨exa_at_cell ((b1 h a hc).1.wr W) hnew h2c, fun i f hf => ?_⟩, fun i i' f g hf hg e => ?_⟩
  · rcases key i f hf with ⟨rfl, rfl⟩ | ⟨ne, hf'⟩
    · exact fld_at_cell (((b1 h a hc).2 i _ hj).same W) hnew h2c
    · exact fld_at_cell (((b1 h a hc).2 i _ hf').other W (Or.inr fun e => ne (b2 i j _ _ hf' hj e))) hnew h2c
  · rcases key i f hf with ⟨rfl, rfl⟩ | ⟨ne, hf'⟩ <;> rcases key i' g hg with ⟨rfl, rfl⟩ | ⟨ne', hg'⟩
    · rfl
    · exact b2 _ _ _ _ hj hg' e
    · exact b2 _ _ _ _ hf' hj e
    · exact b2 _ _ _ _ hf' hg' e
theorem ArI.arr {Z : State} {ty : FieldType} {vs : List Int32} {c : Cell} {h : Heap} {a : Addr} (B : ArI Z ty vs c) (hc : h[a]? = some c) : Arr Z h a c ty := ⟨hc, B.1, B.2.1⟩
theorem ArL.arr {Z : State} {vs : List Int64} {c : Cell} {h : Heap} {a : Addr} (B : ArL Z vs c) (hc : h[a]? = some c) : Arr Z h a c .long := ⟨hc, B.1, B.2.1⟩
theorem ArI.size {Z : State} {ty : FieldType} {vs : List Int32} {c : Cell} (B : ArI Z ty vs c) : c.slots.size = vs.length := by rw [B.2.2.1]; simp
theorem ArL.size {Z : State} {vs : List Int64} {c : Cell} (B : ArL Z vs c) : c.slots.size = vs.length := by rw [B.2.2.1]; simp
theorem ArI.put {Z : State} {ty : FieldType} {vs : List Int32} {c : Cell} (B : ArI Z ty vs c) (j : Nat) {x : Int32} (hx : fits ty (.int x) = true) : ArI Z ty (vs.set j x) (c.setSlot j (.int x)) := by
  refine ⟨B.1, B.2.1, ?_, by simpa using B.2.2.2.1, fun y hy => ?_⟩
  · show c.slots.setIfInBounds j (.int x) = _
    rw [B.2.2.1]; apply Array.ext'; simp [List.map_set]
  · rcases List.mem_or_eq_of_mem_set hy with h | rfl
    · exact B.2.2.2.2 y h
    · exact hx
theorem ArL.put {Z : State} {vs : List Int64} {c : Cell} (B : ArL Z vs c) (j : Nat) {x : Int64} : ArL Z (vs.set j x) (c.setSlot j (.long x)) := by
  refine ⟨B.1, B.2.1, ?_, by simpa using B.2.2.2⟩
  show c.slots.setIfInBounds j (.long x) = _
  rw [B.2.2.1]; apply Array.ext'; simp [List.map_set]
/-! OWN KIT 2: where a run stands, and how it ends -/
abbrev Cx : Type := Program × Launch × Env × Room × State × MethodId × Array Value × List Frame × Method × Code × (Option Value → Hp → Prop)
def Wk (Z : State) : Cx → State → Nat → Nat → Hp → Prop
  | (p, l, e, R, s, m, args, below, meth, c, _), T, cn, sn, M => ∃ locs, Stand p l e R s m args below meth c T locs cn sn ∧ Fr Z.heap.size locs ∧ Own Z T.heap M
def Ends (Z : State) : Cx → State → Nat → Array Slot → List Value → Prop
  | (p, l, e, R, s, m, args, below, meth, c, Q), T, pc, Ls, st => ∃ t o, Steps p.tables e below (T.setTop (mkF m pc Ls st)) t ∧ t.status = .running ∧ Ended t below o ∧ ∃ v L, o = .returned v ∧ (Fr Z.heap.size L ∧ ∃ M, Q v M ∧ Own Z t.heap M) ∧ FrameEnd s o t L R.cells R.slots
/-- from this frame, over such a heap, the run ends as Q says -/
def Go (Z : State) (k : Cx) (cn sn : Nat) (M : Hp) (pc : Nat) (Ls : Array Slot) (st : List Value) : Prop := ∀ T, Wk Z k T cn sn M → Ends Z k T pc Ls st
def Tb (Z : State) : Prop := ∃ a0, ∀ d ∈ tables_1, d.before a0 Z = true
def Ok (Z : State) (k : Cx) (R : Room) (Q : Option Value → Hp → Prop) (y : MethodName) (b : ByteArray) (ml : Nat) (rt : Option FieldType) : Prop :=
  match k with
  | (p, l, e, R', s, m, args, below, meth, c, Q') => p.tables.exec = Jvm.exec ∧ Z.Warmed39 s.vm ∧ c.code = b ∧ c.maxLocals = ml ∧ s.vm.findClass y.cls = some m.cls ∧ meth.name = y.name ∧ meth.sig.returnType = rt ∧ meth.locks = false ∧ Tb Z ∧ R' = R ∧ Q' = Q
theorem Ok.tb {Z : State} {k : Cx} {R : Room} {Q : Option Value → Hp → Prop} {y : MethodName} {b : ByteArray} {ml : Nat} {rt : Option FieldType} (H : Ok Z k R Q y b ml rt) : Tb Z := by
  obtain ⟨p, l, e, R', s, m, args, below, meth, c, Q'⟩ := k
  exact H.2.2.2.2.2.2.2.2.1
section Kit
variable {ty : FieldType} {Z : State} {k : Cx} {R : Room} {Q : Option Value → Hp → Prop} {y : MethodName} {b : ByteArray} {ml : Nat} {rt : Option FieldType} {cn sn : Nat} {M : Hp} {pc pc' : Nat} {Ls : Array Slot} {st : List Value}
theorem mem {i : Nat} {d : Jvm.Cond} (h : tables_1[i]? = some d) : d ∈ tables_1 := List.mem_of_getElem? h
theorem Go.more {cn' sn' : Nat} (hc : cn ≤ cn') (hs : sn ≤ sn') (g : Go Z k cn' sn' M pc Ls st) : Go Z k cn sn M pc Ls st := by
  obtain ⟨p, l, e, R, s, m, args, below, meth, c, Q⟩ := k
  intro T w
  obtain ⟨locs, X, F, O⟩ := w
  exact g T ⟨locs, X.more hc hs, F, O⟩
theorem Go.perm {M' : Hp} (p : M.Perm M') (g : Go Z k cn sn M' pc Ls st) : Go Z k cn sn M pc Ls st := by
  obtain ⟨p', l, e, R, s, m, args, below, meth, c, Q⟩ := k
  intro T w
  obtain ⟨locs, X, F, O⟩ := w
  exact g T ⟨locs, X, F, O.perm p⟩
theorem Go.fact {φ : Prop} (f : ∀ h, Own Z h M → φ) (g : φ → Go Z k cn sn M pc Ls st) : Go Z k cn sn M pc Ls st := by
  obtain ⟨p', l, e, R, s, m, args, below, meth, c, Q⟩ := k
  intro T w
  have w' := w
  obtain ⟨locs, X, F, O⟩ := w
  exact g (f _ O) T w'
theorem Go.cast {pc2 : Nat} {Ls2 : Array Slot} {st2 : List Value} {M2 : Hp} (h1 : pc = pc2) (h2 : Ls = Ls2) (h3 : st = st2) (h4 : M = M2) (g : Go Z k cn sn M2 pc2 Ls2 st2) : Go Z k cn sn M pc Ls st := by
  subst h1 h2 h3 h4; exact g
theorem s_iloadn (H : Ok Z k R Q y b ml rt) {i : Fin 4} {z : Int32} (hd : decode b pc = .ok (.iload_n i, 1)) (hl : Ls[i.val]? = some (.val (.int z))) (hp : pc + 1 = pc') (g : Go Z k cn sn M pc' Ls (.int z :: st)) : Go Z k cn sn M pc Ls (st) := by
  obtain ⟨p, l, e, R', s, m, args, below, meth, c, Q'⟩ := k
  obtain ⟨hx, hZ, hby, -⟩ := H
  subst hp
  intro T w
  have w' := w
  obtain ⟨locs, X, F, O⟩ := w
  obtain ⟨t, o, hs, r⟩ := g T w'
  exact ⟨t, o, XS.iloadN X.here hx rfl (hb hby hd) hl hs, r⟩
theorem s_iload (H : Ok Z k R Q y b ml rt) {i : Nat} {z : Int32} (hd : decode b pc = .ok (.iload i, 2)) (hl : Ls[i]? = some (.val (.int z))) (hp : pc + 2 = pc') (g : Go Z k cn sn M pc' Ls (.int z :: st)) : Go Z k cn sn M pc Ls (st) := by
  obtain ⟨p, l, e, R', s, m, args, below, meth, c, Q'⟩ := k
  obtain ⟨hx, hZ, hby, -⟩ := H
  subst hp
  intro T w
  have w' := w
  obtain ⟨locs, X, F, O⟩ := w
  obtain ⟨t, o, hs, r⟩ := g T w'
  exact ⟨t, o, XS.iload X.here hx rfl (hb hby hd) hl hs, r⟩
theorem s_istoren (H : Ok Z k R Q y b ml rt) {i : Fin 4} {x : Int32} {L' : Int32 → Array Slot} (hd : decode b pc = .ok (.istore_n i, 1)) (hl : ∀ z, storeLocals Ls i.val (.int z) = some (L' z)) (hp : pc + 1 = pc') (g : ∀ z, z = x → Go Z k cn sn M pc' (L' z) st) : Go Z k cn sn M pc Ls (.int x :: st) := by
  obtain ⟨p, l, e, R', s, m, args, below, meth, c, Q'⟩ := k
  obtain ⟨hx, hZ, hby, -⟩ := H
  subst hp
  intro T w
  have w' := w
  obtain ⟨locs, X, F, O⟩ := w
  obtain ⟨t, o, hs, r⟩ := g x rfl T w'
  exact ⟨t, o, XS.istoreN X.here hx rfl (hb hby hd) rfl (hl x) hs, r⟩
theorem s_istore (H : Ok Z k R Q y b ml rt) {i : Nat} {x : Int32} {L' : Int32 → Array Slot} (hd : decode b pc = .ok (.istore i, 2)) (hl : ∀ z, storeLocals Ls i (.int z) = some (L' z)) (hp : pc + 2 = pc') (g : ∀ z, z = x → Go Z k cn sn M pc' (L' z) st) : Go Z k cn sn M pc Ls (.int x :: st) := by
  obtain ⟨p, l, e, R', s, m, args, below, meth, c, Q'⟩ := k
  obtain ⟨hx, hZ, hby, -⟩ := H
  subst hp
  intro T w
  have w' := w
  obtain ⟨locs, X, F, O⟩ := w
  obtain ⟨t, o, hs, r⟩ := g x rfl T w'
  exact ⟨t, o, XS.istore X.here hx rfl (hb hby hd) rfl (hl x) hs, r⟩
theorem s_lloadn (H : Ok Z k R Q y b ml rt) {i : Fin 4} {z : Int64} (hd : decode b pc = .ok (.lload_n i, 1)) (hl : Ls[i.val]? = some (.val (.long z))) (hp : pc + 1 = pc') (g : Go Z k cn sn M pc' Ls (.long z :: st)) : Go Z k cn sn M pc Ls (st) := by
  obtain ⟨p, l, e, R', s, m, args, below, meth, c, Q'⟩ := k
  obtain ⟨hx, hZ, hby, -⟩ := H
  subst hp
  intro T w
  have w' := w
  obtain ⟨locs, X, F, O⟩ := w
  obtain ⟨t, o, hs, r⟩ := g T w'
  exact ⟨t, o, XS.lloadN X.here hx rfl (hb hby hd) hl hs, r⟩
theorem s_lload (H : Ok Z k R Q y b ml rt) {i : Nat} {z : Int64} (hd : decode b pc = .ok (.lload i, 2)) (hl : Ls[i]? = some (.val (.long z))) (hp : pc + 2 = pc') (g : Go Z k cn sn M pc' Ls (.long z :: st)) : Go Z k cn sn M pc Ls (st) := by
  obtain ⟨p, l, e, R', s, m, args, below, meth, c, Q'⟩ := k
  obtain ⟨hx, hZ, hby, -⟩ := H
  subst hp
  intro T w
  have w' := w
  obtain ⟨locs, X, F, O⟩ := w
  obtain ⟨t, o, hs, r⟩ := g T w'
  exact ⟨t, o, XS.lload X.here hx rfl (hb hby hd) hl hs, r⟩
theorem s_lstoren (H : Ok Z k R Q y b ml rt) {i : Fin 4} {x : Int64} {L' : Int64 → Array Slot} (hd : decode b pc = .ok (.lstore_n i, 1)) (hl : ∀ z, storeLocals Ls i.val (.long z) = some (L' z)) (hp : pc + 1 = pc') (g : ∀ z, z = x → Go Z k cn sn M pc' (L' z) st) : Go Z k cn sn M pc Ls (.long x :: st) := by
  obtain ⟨p, l, e, R', s, m, args, below, meth, c, Q'⟩ := k
  obtain ⟨hx, hZ, hby, -⟩ := H
  subst hp
  intro T w
  have w' := w
  obtain ⟨locs, X, F, O⟩ := w
  obtain ⟨t, o, hs, r⟩ := g x rfl T w'
  exact ⟨t, o, XS.lstoreN X.here hx rfl (hb hby hd) rfl (hl x) hs, r⟩
theorem s_lstore (H : Ok Z k R Q y b ml rt) {i : Nat} {x : Int64} {L' : Int64 → Array Slot} (hd : decode b pc = .ok (.lstore i, 2)) (hl : ∀ z, storeLocals Ls i (.long z) = some (L' z)) (hp : pc + 2 = pc') (g : ∀ z, z = x → Go Z k cn sn M pc' (L' z) st) : Go Z k cn sn M pc Ls (.long x :: st) := by
  obtain ⟨p, l, e, R', s, m, args, below, meth, c, Q'⟩ := k
  obtain ⟨hx, hZ, hby, -⟩ := H
  subst hp
  intro T w
  have w' := w
  obtain ⟨locs, X, F, O⟩ := w
  obtain ⟨t, o, hs, r⟩ := g x rfl T w'
  exact ⟨t, o, XS.lstore X.here hx rfl (hb hby hd) rfl (hl x) hs, r⟩
theorem s_aloadn (H : Ok Z k R Q y b ml rt) {i : Fin 4} {v : Value} (hd : decode b pc = .ok (.aload_n i, 1)) (hl : Ls[i.val]? = some (.val v)) (hv : v.isRef = true) (hp : pc + 1 = pc') (g : Go Z k cn sn M pc' Ls (v :: st)) : Go Z k cn sn M pc Ls (st) := by
  obtain ⟨p, l, e, R', s, m, args, below, meth, c, Q'⟩ := k
  obtain ⟨hx, hZ, hby, -⟩ := H
  subst hp
  intro T w
  have w' := w
  obtain ⟨locs, X, F, O⟩ := w
  obtain ⟨t, o, hs, r⟩ := g T w'
  exact ⟨t, o, XS.aloadN X.here hx rfl (hb hby hd) hl hv hs, r⟩
theorem s_aload (H : Ok Z k R Q y b ml rt) {i : Nat} {v : Value} (hd : decode b pc = .ok (.aload i, 2)) (hl : Ls[i]? = some (.val v)) (hv : v.isRef = true) (hp : pc + 2 = pc') (g : Go Z k cn sn M pc' Ls (v :: st)) : Go Z k cn sn M pc Ls (st) := by
  obtain ⟨p, l, e, R', s, m, args, below, meth, c, Q'⟩ := k
  obtain ⟨hx, hZ, hby, -⟩ := H
  subst hp
  intro T w
  have w' := w
  obtain ⟨locs, X, F, O⟩ := w
  obtain ⟨t, o, hs, r⟩ := g T w'
  exact ⟨t, o, XS.aload X.here hx rfl (hb hby hd) hl hv hs, r⟩
theorem s_astoren (H : Ok Z k R Q y b ml rt) {i : Fin 4} {v : Value} {L' : Array Slot} (hd : decode b pc = .ok (.astore_n i, 1)) (hv : v.isRef = true) (hl : storeLocals Ls i.val v = some L') (hp : pc + 1 = pc') (g : Go Z k cn sn M pc' L' (st)) : Go Z k cn sn M pc Ls (v :: st) := by
  obtain ⟨p, l, e, R', s, m, args, below, meth, c, Q'⟩ := k
  obtain ⟨hx, hZ, hby, -⟩ := H
  subst hp
  intro T w
  have w' := w
  obtain ⟨locs, X, F, O⟩ := w
  obtain ⟨t, o, hs, r⟩ := g T w'
  exact ⟨t, o, XS.astoreN X.here hx rfl (hb hby hd) rfl hv hl hs, r⟩
theorem s_astore (H : Ok Z k R Q y b ml rt) {i : Nat} {v : Value} {L' : Array Slot} (hd : decode b pc = .ok (.astore i, 2)) (hv : v.isRef = true) (hl : storeLocals Ls i v = some L') (hp : pc + 2 = pc') (g : Go Z k cn sn M pc' L' (st)) : Go Z k cn sn M pc Ls (v :: st) := by
  obtain ⟨p, l, e, R', s, m, args, below, meth, c, Q'⟩ := k
  obtain ⟨hx, hZ, hby, -⟩ := H
  subst hp
  intro T w
  have w' := w
  obtain ⟨locs, X, F, O⟩ := w
  obtain ⟨t, o, hs, r⟩ := g T w'
  exact ⟨t, o, XS.astore X.here hx rfl (hb hby hd) rfl hv hl hs, r⟩
theorem s_iconst (H : Ok Z k R Q y b ml rt) {i : Int} {z : Int32} (hd : decode b pc = .ok (.iconst i, 1)) (hz : z = Int32.ofInt i) (hp : pc + 1 = pc') (g : Go Z k cn sn M pc' Ls (.int z :: st)) : Go Z k cn sn M pc Ls (st) := by
  obtain ⟨p, l, e, R', s, m, args, below, meth, c, Q'⟩ := k
  obtain ⟨hx, hZ, hby, -⟩ := H
  subst hp
  intro T w
  have w' := w
  obtain ⟨locs, X, F, O⟩ := w
  obtain ⟨t, o, hs, r⟩ := g T w'
  exact ⟨t, o, XS.iconst X.here hx rfl (hb hby hd) (hz ▸ hs), r⟩
theorem s_bipush (H : Ok Z k R Q y b ml rt) {i : Int} {z : Int32} (hd : decode b pc = .ok (.bipush i, 2)) (hz : z = (Int8.ofInt i).toInt32) (hp : pc + 2 = pc') (g : Go Z k cn sn M pc' Ls (.int z :: st)) : Go Z k cn sn M pc Ls (st) := by
  obtain ⟨p, l, e, R', s, m, args, below, meth, c, Q'⟩ := k
  obtain ⟨hx, hZ, hby, -⟩ := H
  subst hp
  intro T w
  have w' := w
  obtain ⟨locs, X, F, O⟩ := w
  obtain ⟨t, o, hs, r⟩ := g T w'
  exact ⟨t, o, XS.bipush X.here hx rfl (hb hby hd) (hz ▸ hs), r⟩
theorem s_sipush (H : Ok Z k R Q y b ml rt) {i : Int} {z : Int32} (hd : decode b pc = .ok (.sipush i, 3)) (hz : z = (Int16.ofInt i).toInt32) (hp : pc + 3 = pc') (g : Go Z k cn sn M pc' Ls (.int z :: st)) : Go Z k cn sn M pc Ls (st) := by
  obtain ⟨p, l, e, R', s, m, args, below, meth, c, Q'⟩ := k
  obtain ⟨hx, hZ, hby, -⟩ := H
  subst hp
  intro T w
  have w' := w
  obtain ⟨locs, X, F, O⟩ := w
  obtain ⟨t, o, hs, r⟩ := g T w'
  exact ⟨t, o, XS.sipush X.here hx rfl (hb hby hd) (hz ▸ hs), r⟩
theorem s_lconst (H : Ok Z k R Q y b ml rt) {i : Fin 2} {z : Int64} (hd : decode b pc = .ok (.lconst i, 1)) (hz : z = Int64.ofNat i) (hp : pc + 1 = pc') (g : Go Z k cn sn M pc' Ls (.long z :: st)) : Go Z k cn sn M pc Ls (st) := by
  obtain ⟨p, l, e, R', s, m, args, below, meth, c, Q'⟩ := k
  obtain ⟨hx, hZ, hby, -⟩ := H
  subst hp
  intro T w
  have w' := w
  obtain ⟨locs, X, F, O⟩ := w
  obtain ⟨t, o, hs, r⟩ := g T w'
  exact ⟨t, o, XS.lconst X.here hx rfl (hb hby hd) (hz ▸ hs), r⟩
theorem s_anull (H : Ok Z k R Q y b ml rt) (hd : decode b pc = .ok (.aconst_null, 1)) (hp : pc + 1 = pc') (g : Go Z k cn sn M pc' Ls (.null :: st)) : Go Z k cn sn M pc Ls (st) := by
  obtain ⟨p, l, e, R', s, m, args, below, meth, c, Q'⟩ := k
  obtain ⟨hx, hZ, hby, -⟩ := H
  subst hp
  intro T w
  have w' := w
  obtain ⟨locs, X, F, O⟩ := w
  obtain ⟨t, o, hs, r⟩ := g T w'
  exact ⟨t, o, XS.aconstNull X.here hx rfl (hb hby hd) hs, r⟩
theorem s_iadd (H : Ok Z k R Q y b ml rt) {x u : Int32} (hd : decode b pc = .ok (.iadd, 1)) (hp : pc + 1 = pc') (g : Go Z k cn sn M pc' Ls (.int (x + u) :: st)) : Go Z k cn sn M pc Ls (.int u :: .int x :: st) := by
  obtain ⟨p, l, e, R', s, m, args, below, meth, c, Q'⟩ := k
  obtain ⟨hx, hZ, hby, -⟩ := H
  subst hp
  intro T w
  have w' := w
  obtain ⟨locs, X, F, O⟩ := w
  obtain ⟨t, o, hs, r⟩ := g T w'
  exact ⟨t, o, XS.iadd X.here hx rfl (hb hby hd) rfl hs, r⟩
theorem s_isub (H : Ok Z k R Q y b ml rt) {x u : Int32} (hd : decode b pc = .ok (.isub, 1)) (hp : pc + 1 = pc') (g : Go Z k cn sn M pc' Ls (.int (x - u) :: st)) : Go Z k cn sn M pc Ls (.int u :: .int x :: st) := by
  obtain ⟨p, l, e, R', s, m, args, below, meth, c, Q'⟩ := k
  obtain ⟨hx, hZ, hby, -⟩ := H
  subst hp
  intro T w
  have w' := w
  obtain ⟨locs, X, F, O⟩ := w
  obtain ⟨t, o, hs, r⟩ := g T w'
  exact ⟨t, o, XS.isub X.here hx rfl (hb hby hd) rfl hs, r⟩
theorem s_imul (H : Ok Z k R Q y b ml rt) {x u : Int32} (hd : decode b pc = .ok (.imul, 1)) (hp : pc + 1 = pc') (g : Go Z k cn sn M pc' Ls (.int (x * u) :: st)) : Go Z k cn sn M pc Ls (.int u :: .int x :: st) := by
  obtain ⟨p, l, e, R', s, m, args, below, meth, c, Q'⟩ := k
  obtain ⟨hx, hZ, hby, -⟩ := H
  subst hp
  intro T w
  have w' := w
  obtain ⟨locs, X, F, O⟩ := w
  obtain ⟨t, o, hs, r⟩ := g T w'
  exact ⟨t, o, XS.imul X.here hx rfl (hb hby hd) rfl hs, r⟩
theorem s_iand (H : Ok Z k R Q y b ml rt) {x u : Int32} (hd : decode b pc = .ok (.iand, 1)) (hp : pc + 1 = pc') (g : Go Z k cn sn M pc' Ls (.int (x &&& u) :: st)) : Go Z k cn sn M pc Ls (.int u :: .int x :: st) := by
  obtain ⟨p, l, e, R', s, m, args, below, meth, c, Q'⟩ := k
  obtain ⟨hx, hZ, hby, -⟩ := H
  subst hp
  intro T w
  have w' := w
  obtain ⟨locs, X, F, O⟩ := w
  obtain ⟨t, o, hs, r⟩ := g T w'
  exact ⟨t, o, XS.iand X.here hx rfl (hb hby hd) rfl hs, r⟩
theorem s_ior (H : Ok Z k R Q y b ml rt) {x u : Int32} (hd : decode b pc = .ok (.ior, 1)) (hp : pc + 1 = pc') (g : Go Z k cn sn M pc' Ls (.int (x ||| u) :: st)) : Go Z k cn sn M pc Ls (.int u :: .int x :: st) := by
  obtain ⟨p, l, e, R', s, m, args, below, meth, c, Q'⟩ := k
  obtain ⟨hx, hZ, hby, -⟩ := H
  subst hp
  intro T w
  have w' := w
  obtain ⟨locs, X, F, O⟩ := w
  obtain ⟨t, o, hs, r⟩ := g T w'
  exact ⟨t, o, XS.ior X.here hx rfl (hb hby hd) rfl hs, r⟩
theorem s_ixor (H : Ok Z k R Q y b ml rt) {x u : Int32} (hd : decode b pc = .ok (.ixor, 1)) (hp : pc + 1 = pc') (g : Go Z k cn sn M pc' Ls (.int (x ^^^ u) :: st)) : Go Z k cn sn M pc Ls (.int u :: .int x :: st) := by
  obtain ⟨p, l, e, R', s, m, args, below, meth, c, Q'⟩ := k
  obtain ⟨hx, hZ, hby, -⟩ := H
  subst hp
  intro T w
  have w' := w
  obtain ⟨locs, X, F, O⟩ := w
  obtain ⟨t, o, hs, r⟩ := g T w'
  exact ⟨t, o, XS.ixor X.here hx rfl (hb hby hd) rfl hs, r⟩
theorem s_idiv (H : Ok Z k R Q y b ml rt) {x u : Int32} (hd : decode b pc = .ok (.idiv, 1)) (hu : u ≠ 0) (hp : pc + 1 = pc') (g : Go Z k cn sn M pc' Ls (.int (x / u) :: st)) : Go Z k cn sn M pc Ls (.int u :: .int x :: st) := by
  obtain ⟨p, l, e, R', s, m, args, below, meth, c, Q'⟩ := k
  obtain ⟨hx, hZ, hby, -⟩ := H
  subst hp
  intro T w
  have w' := w
  obtain ⟨locs, X, F, O⟩ := w
  obtain ⟨t, o, hs, r⟩ := g T w'
  exact ⟨t, o, XS.idiv X.here hx rfl (hb hby hd) rfl hu hs, r⟩
theorem s_ineg (H : Ok Z k R Q y b ml rt) {x : Int32} (hd : decode b pc = .ok (.ineg, 1)) (hp : pc + 1 = pc') (g : Go Z k cn sn M pc' Ls (.int (-x) :: st)) : Go Z k cn sn M pc Ls (.int x :: st) := by
  obtain ⟨p, l, e, R', s, m, args, below, meth, c, Q'⟩ := k
  obtain ⟨hx, hZ, hby, -⟩ := H
  subst hp
  intro T w
  have w' := w
  obtain ⟨locs, X, F, O⟩ := w
  obtain ⟨t, o, hs, r⟩ := g T w'
  exact ⟨t, o, XS.ineg X.here hx rfl (hb hby hd) rfl hs, r⟩
theorem s_ladd (H : Ok Z k R Q y b ml rt) {x u : Int64} (hd : decode b pc = .ok (.ladd, 1)) (hp : pc + 1 = pc') (g : Go Z k cn sn M pc' Ls (.long (x + u) :: st)) : Go Z k cn sn M pc Ls (.long u :: .long x :: st) := by
  obtain ⟨p, l, e, R', s, m, args, below, meth, c, Q'⟩ := k
  obtain ⟨hx, hZ, hby, -⟩ := H
  subst hp
  intro T w
  have w' := w
  obtain ⟨locs, X, F, O⟩ := w
  obtain ⟨t, o, hs, r⟩ := g T w'
  exact ⟨t, o, XS.ladd X.here hx rfl (hb hby hd) rfl hs, r⟩
theorem s_lsub (H : Ok Z k R Q y b ml rt) {x u : Int64} (hd : decode b pc = .ok (.lsub, 1)) (hp : pc + 1 = pc') (g : Go Z k cn sn M pc' Ls (.long (x - u) :: st)) : Go Z k cn sn M pc Ls (.long u :: .long x :: st) := by
  obtain ⟨p, l, e, R', s, m, args, below, meth, c, Q'⟩ := k
  obtain ⟨hx, hZ, hby, -⟩ := H
  subst hp
  intro T w
  have w' := w
  obtain ⟨locs, X, F, O⟩ := w
  obtain ⟨t, o, hs, r⟩ := g T w'
  exact ⟨t, o, XS.lsub X.here hx rfl (hb hby hd) rfl hs, r⟩
theorem s_lmul (H : Ok Z k R Q y b ml rt) {x u : Int64} (hd : decode b pc = .ok (.lmul, 1)) (hp : pc + 1 = pc') (g : Go Z k cn sn M pc' Ls (.long (x * u) :: st)) : Go Z k cn sn M pc Ls (.long u :: .long x :: st) := by
  obtain ⟨p, l, e, R', s, m, args, below, meth, c, Q'⟩ := k
  obtain ⟨hx, hZ, hby, -⟩ := H
  subst hp
  intro T w
  have w' := w
  obtain ⟨locs, X, F, O⟩ := w
  obtain ⟨t, o, hs, r⟩ := g T w'
  exact ⟨t, o, XS.lmul X.here hx rfl (hb hby hd) rfl hs, r⟩
theorem s_land (H : Ok Z k R Q y b ml rt) {x u : Int64} (hd : decode b pc = .ok (.land, 1)) (hp : pc + 1 = pc') (g : Go Z k cn sn M pc' Ls (.long (x &&& u) :: st)) : Go Z k cn sn M pc Ls (.long u :: .long x :: st) := by
  obtain ⟨p, l, e, R', s, m, args, below, meth, c, Q'⟩ := k
  obtain ⟨hx, hZ, hby, -⟩ := H
  subst hp
  intro T w
  have w' := w
  obtain ⟨locs, X, F, O⟩ := w
  obtain ⟨t, o, hs, r⟩ := g T w'
  exact ⟨t, o, XS.land X.here hx rfl (hb hby hd) rfl hs, r⟩
theorem s_lor (H : Ok Z k R Q y b ml rt) {x u : Int64} (hd : decode b pc = .ok (.lor, 1)) (hp : pc + 1 = pc') (g : Go Z k cn sn M pc' Ls (.long (x ||| u) :: st)) : Go Z k cn sn M pc Ls (.long u :: .long x :: st) := by
  obtain ⟨p, l, e, R', s, m, args, below, meth, c, Q'⟩ := k
  obtain ⟨hx, hZ, hby, -⟩ := H
  subst hp
  intro T w
  have w' := w
  obtain ⟨locs, X, F, O⟩ := w
  obtain ⟨t, o, hs, r⟩ := g T w'
  exact ⟨t, o, XS.lor X.here hx rfl (hb hby hd) rfl hs, r⟩
theorem s_lxor (H : Ok Z k R Q y b ml rt) {x u : Int64} (hd : decode b pc = .ok (.lxor, 1)) (hp : pc + 1 = pc') (g : Go Z k cn sn M pc' Ls (.long (x ^^^ u) :: st)) : Go Z k cn sn M pc Ls (.long u :: .long x :: st) := by
  obtain ⟨p, l, e, R', s, m, args, below, meth, c, Q'⟩ := k
  obtain ⟨hx, hZ, hby, -⟩ := H
  subst hp
  intro T w
  have w' := w
  obtain ⟨locs, X, F, O⟩ := w
  obtain ⟨t, o, hs, r⟩ := g T w'
  exact ⟨t, o, XS.lxor X.here hx rfl (hb hby hd) rfl hs, r⟩
theorem s_ldiv (H : Ok Z k R Q y b ml rt) {x u : Int64} (hd : decode b pc = .ok (.ldiv, 1)) (hu : u ≠ 0) (hp : pc + 1 = pc') (g : Go Z k cn sn M pc' Ls (.long (x / u) :: st)) : Go Z k cn sn M pc Ls (.long u :: .long x :: st) := by
  obtain ⟨p, l, e, R', s, m, args, below, meth, c, Q'⟩ := k
  obtain ⟨hx, hZ, hby, -⟩ := H
  subst hp
  intro T w
  have w' := w
  obtain ⟨locs, X, F, O⟩ := w
  obtain ⟨t, o, hs, r⟩ := g T w'
  exact ⟨t, o, XS.ldiv X.here hx rfl (hb hby hd) rfl hu hs, r⟩
theorem s_lneg (H : Ok Z k R Q y b ml rt) {x : Int64} (hd : decode b pc = .ok (.lneg, 1)) (hp : pc + 1 = pc') (g : Go Z k cn sn M pc' Ls (.long (-x) :: st)) : Go Z k cn sn M pc Ls (.long x :: st) := by
  obtain ⟨p, l, e, R', s, m, args, below, meth, c, Q'⟩ := k
  obtain ⟨hx, hZ, hby, -⟩ := H
  subst hp
  intro T w
  have w' := w
  obtain ⟨locs, X, F, O⟩ := w
  obtain ⟨t, o, hs, r⟩ := g T w'
  exact ⟨t, o, XS.lneg X.here hx rfl (hb hby hd) rfl hs, r⟩
theorem s_irem (H : Ok Z k R Q y b ml rt) {x u : Int32} (hd : decode b pc = .ok (.irem, 1)) (hu : u ≠ 0) (hp : pc + 1 = pc') (g : Go Z k cn sn M pc' Ls (.int (x % u) :: st)) : Go Z k cn sn M pc Ls (.int u :: .int x :: st) := by
  obtain ⟨p, l, e, R', s, m, args, below, meth, c, Q'⟩ := k
  obtain ⟨hx, hZ, hby, -⟩ := H
  subst hp
  intro T w
  have w' := w
  obtain ⟨locs, X, F, O⟩ := w
  obtain ⟨t, o, hs, r⟩ := g T w'
  exact ⟨t, o, iremM X hx rfl (hb hby hd) rfl hu hs, r⟩
theorem s_lrem (H : Ok Z k R Q y b ml rt) {x u : Int64} (hd : decode b pc = .ok (.lrem, 1)) (hu : u ≠ 0) (hp : pc + 1 = pc') (g : Go Z k cn sn M pc' Ls (.long (x % u) :: st)) : Go Z k cn sn M pc Ls (.long u :: .long x :: st) := by
  obtain ⟨p, l, e, R', s, m, args, below, meth, c, Q'⟩ := k
  obtain ⟨hx, hZ, hby, -⟩ := H
  subst hp
  intro T w
  have w' := w
  obtain ⟨locs, X, F, O⟩ := w
  obtain ⟨t, o, hs, r⟩ := g T w'
  exact ⟨t, o, XS.lrem X.here hx rfl (hb hby hd) rfl hu (lrem_mod x u ▸ hs), r⟩
theorem s_ishl (H : Ok Z k R Q y b ml rt) {x u : Int32} (hd : decode b pc = .ok (.ishl, 1)) (hp : pc + 1 = pc') (g : Go Z k cn sn M pc' Ls (.int (x <<< (u &&& 31)) :: st)) : Go Z k cn sn M pc Ls (.int u :: .int x :: st) := by
  obtain ⟨p, l, e, R', s, m, args, below, meth, c, Q'⟩ := k
  obtain ⟨hx, hZ, hby, -⟩ := H
  subst hp
  intro T w
  have w' := w
  obtain ⟨locs, X, F, O⟩ := w
  obtain ⟨t, o, hs, r⟩ := g T w'
  exact ⟨t, o, XS.ishl X.here hx rfl (hb hby hd) rfl hs, r⟩
theorem s_ishr (H : Ok Z k R Q y b ml rt) {x u : Int32} (hd : decode b pc = .ok (.ishr, 1)) (hp : pc + 1 = pc') (g : Go Z k cn sn M pc' Ls (.int (x >>> (u &&& 31)) :: st)) : Go Z k cn sn M pc Ls (.int u :: .int x :: st) := by
  obtain ⟨p, l, e, R', s, m, args, below, meth, c, Q'⟩ := k
  obtain ⟨hx, hZ, hby, -⟩ := H
  subst hp
  intro T w
  have w' := w
  obtain ⟨locs, X, F, O⟩ := w
  obtain ⟨t, o, hs, r⟩ := g T w'
  exact ⟨t, o, XS.ishr X.here hx rfl (hb hby hd) rfl hs, r⟩
theorem s_iushr (H : Ok Z k R Q y b ml rt) {x u : Int32} (hd : decode b pc = .ok (.iushr, 1)) (hp : pc + 1 = pc') (g : Go Z k cn sn M pc' Ls (.int ((x.toUInt32 >>> (u &&& 31).toUInt32).toInt32) :: st)) : Go Z k cn sn M pc Ls (.int u :: .int x :: st) := by
  obtain ⟨p, l, e, R', s, m, args, below, meth, c, Q'⟩ := k
  obtain ⟨hx, hZ, hby, -⟩ := H
  subst hp
  intro T w
  have w' := w
  obtain ⟨locs, X, F, O⟩ := w
  obtain ⟨t, o, hs, r⟩ := g T w'
  exact ⟨t, o, XS.iushr X.here hx rfl (hb hby hd) rfl hs, r⟩
theorem s_lshl (H : Ok Z k R Q y b ml rt) {x : Int64} {u : Int32} (hd : decode b pc = .ok (.lshl, 1)) (hp : pc + 1 = pc') (g : Go Z k cn sn M pc' Ls (.long (x <<< (u &&& 0x3f).toInt64) :: st)) : Go Z k cn sn M pc Ls (.int u :: .long x :: st) := by
  obtain ⟨p, l, e, R', s, m, args, below, meth, c, Q'⟩ := k
  obtain ⟨hx, hZ, hby, -⟩ := H
  subst hp
  intro T w
  have w' := w
  obtain ⟨locs, X, F, O⟩ := w
  obtain ⟨t, o, hs, r⟩ := g T w'
  exact ⟨t, o, XS.lshl X.here hx rfl (hb hby hd) rfl hs, r⟩
theorem s_lshr (H : Ok Z k R Q y b ml rt) {x : Int64} {u : Int32} (hd : decode b pc = .ok (.lshr, 1)) (hp : pc + 1 = pc') (g : Go Z k cn sn M pc' Ls (.long (x >>> (u &&& 0x3f).toInt64) :: st)) : Go Z k cn sn M pc Ls (.int u :: .long x :: st) := by
  obtain ⟨p, l, e, R', s, m, args, below, meth, c, Q'⟩ := k
  obtain ⟨hx, hZ, hby, -⟩ := H
  subst hp
  intro T w
  have w' := w
  obtain ⟨locs, X, F, O⟩ := w
  obtain ⟨t, o, hs, r⟩ := g T w'
  exact ⟨t, o, XS.lshr X.here hx rfl (hb hby hd) rfl hs, r⟩
theorem s_lushr (H : Ok Z k R Q y b ml rt) {x : Int64} {u : Int32} (hd : decode b pc = .ok (.lushr, 1)) (hp : pc + 1 = pc') (g : Go Z k cn sn M pc' Ls (.long ((x.toUInt64 >>> (u &&& 0x3f).toInt64.toUInt64).toInt64) :: st)) : Go Z k cn sn M pc Ls (.int u :: .long x :: st) := by
  obtain ⟨p, l, e, R', s, m, args, below, meth, c, Q'⟩ := k
  obtain ⟨hx, hZ, hby, -⟩ := H
  subst hp
  intro T w
  have w' := w
  obtain ⟨locs, X, F, O⟩ := w
  obtain ⟨t, o, hs, r⟩ := g T w'
  exact ⟨t, o, XS.lushr X.here hx rfl (hb hby hd) rfl hs, r⟩
theorem s_i2l (H : Ok Z k R Q y b ml rt) {x : Int32} (hd : decode b pc = .ok (.i2l, 1)) (hp : pc + 1 = pc') (g : Go Z k cn sn M pc' Ls (.long (x.toInt64) :: st)) : Go Z k cn sn M pc Ls (.int x :: st) := by
  obtain ⟨p, l, e, R', s, m, args, below, meth, c, Q'⟩ := k
  obtain ⟨hx, hZ, hby, -⟩ := H
  subst hp
  intro T w
  have w' := w
  obtain ⟨locs, X, F, O⟩ := w
  obtain ⟨t, o, hs, r⟩ := g T w'
  exact ⟨t, o, XS.i2l X.here hx rfl (hb hby hd) rfl hs, r⟩
theorem s_l2i (H : Ok Z k R Q y b ml rt) {x : Int64} (hd : decode b pc = .ok (.l2i, 1)) (hp : pc + 1 = pc') (g : Go Z k cn sn M pc' Ls (.int (x.toInt32) :: st)) : Go Z k cn sn M pc Ls (.long x :: st) := by
  obtain ⟨p, l, e, R', s, m, args, below, meth, c, Q'⟩ := k
  obtain ⟨hx, hZ, hby, -⟩ := H
  subst hp
  intro T w
  have w' := w
  obtain ⟨locs, X, F, O⟩ := w
  obtain ⟨t, o, hs, r⟩ := g T w'
  exact ⟨t, o, XS.l2i X.here hx rfl (hb hby hd) rfl hs, r⟩
theorem s_i2b (H : Ok Z k R Q y b ml rt) {x : Int32} (hd : decode b pc = .ok (.i2b, 1)) (hp : pc + 1 = pc') (g : Go Z k cn sn M pc' Ls (.int (x.toInt8.toInt32) :: st)) : Go Z k cn sn M pc Ls (.int x :: st) := by
  obtain ⟨p, l, e, R', s, m, args, below, meth, c, Q'⟩ := k
  obtain ⟨hx, hZ, hby, -⟩ := H
  subst hp
  intro T w
  have w' := w
  obtain ⟨locs, X, F, O⟩ := w
  obtain ⟨t, o, hs, r⟩ := g T w'
  exact ⟨t, o, XS.i2b X.here hx rfl (hb hby hd) rfl hs, r⟩
theorem s_i2c (H : Ok Z k R Q y b ml rt) {x : Int32} (hd : decode b pc = .ok (.i2c, 1)) (hp : pc + 1 = pc') (g : Go Z k cn sn M pc' Ls (.int (x.toUInt32.toUInt16.toUInt32.toInt32) :: st)) : Go Z k cn sn M pc Ls (.int x :: st) := by
  obtain ⟨p, l, e, R', s, m, args, below, meth, c, Q'⟩ := k
  obtain ⟨hx, hZ, hby, -⟩ := H
  subst hp
  intro T w
  have w' := w
  obtain ⟨locs, X, F, O⟩ := w
  obtain ⟨t, o, hs, r⟩ := g T w'
  exact ⟨t, o, XS.i2c X.here hx rfl (hb hby hd) rfl hs, r⟩
theorem s_i2s (H : Ok Z k R Q y b ml rt) {x : Int32} (hd : decode b pc = .ok (.i2s, 1)) (hp : pc + 1 = pc') (g : Go Z k cn sn M pc' Ls (.int (x.toInt16.toInt32) :: st)) : Go Z k cn sn M pc Ls (.int x :: st) := by
  obtain ⟨p, l, e, R', s, m, args, below, meth, c, Q'⟩ := k
  obtain ⟨hx, hZ, hby, -⟩ := H
  subst hp
  intro T w
  have w' := w
  obtain ⟨locs, X, F, O⟩ := w
  obtain ⟨t, o, hs, r⟩ := g T w'
  exact ⟨t, o, XS.i2s X.here hx rfl (hb hby hd) rfl hs, r⟩
theorem s_lcmp (H : Ok Z k R Q y b ml rt) {x u : Int64} (hd : decode b pc = .ok (.lcmp, 1)) (hp : pc + 1 = pc') (g : Go Z k cn sn M pc' Ls (.int (lcmpW x u) :: st)) : Go Z k cn sn M pc Ls (.long u :: .long x :: st) := by
  obtain ⟨p, l, e, R', s, m, args, below, meth, c, Q'⟩ := k
  obtain ⟨hx, hZ, hby, -⟩ := H
  subst hp
  intro T w
  have w' := w
  obtain ⟨locs, X, F, O⟩ := w
  obtain ⟨t, o, hs, r⟩ := g T w'
  exact ⟨t, o, XS.lcmp X.here hx rfl (hb hby hd) rfl hs, r⟩
theorem s_dup (H : Ok Z k R Q y b ml rt) {v : Value} (hd : decode b pc = .ok (.dup, 1)) (hc : v.category = 1) (hp : pc + 1 = pc') (g : Go Z k cn sn M pc' Ls (v :: v :: st)) : Go Z k cn sn M pc Ls (v :: st) := by
  obtain ⟨p, l, e, R', s, m, args, below, meth, c, Q'⟩ := k
  obtain ⟨hx, hZ, hby, -⟩ := H
  subst hp
  intro T w
  have w' := w
  obtain ⟨locs, X, F, O⟩ := w
  obtain ⟨t, o, hs, r⟩ := g T w'
  exact ⟨t, o, XS.dup X.here hx rfl (hb hby hd) rfl hc hs, r⟩
theorem s_dupx1 (H : Ok Z k R Q y b ml rt) {v v' : Value} (hd : decode b pc = .ok (.dup_x1, 1)) (hc : v.category = 1) (hc' : v'.category = 1) (hp : pc + 1 = pc') (g : Go Z k cn sn M pc' Ls (v :: v' :: v :: st)) : Go Z k cn sn M pc Ls (v :: v' :: st) := by
  obtain ⟨p, l, e, R', s, m, args, below, meth, c, Q'⟩ := k
  obtain ⟨hx, hZ, hby, -⟩ := H
  subst hp
  intro T w
  have w' := w
  obtain ⟨locs, X, F, O⟩ := w
  obtain ⟨t, o, hs, r⟩ := g T w'
  exact ⟨t, o, XS.dupX1 X.here hx rfl (hb hby hd) rfl hc hc' hs, r⟩
theorem s_dup2 (H : Ok Z k R Q y b ml rt) {v v' : Value} (hd : decode b pc = .ok (.dup2, 1)) (hc : v.category = 1) (hc' : v'.category = 1) (hp : pc + 1 = pc') (g : Go Z k cn sn M pc' Ls (v :: v' :: v :: v' :: st)) : Go Z k cn sn M pc Ls (v :: v' :: st) := by
  obtain ⟨p, l, e, R', s, m, args, below, meth, c, Q'⟩ := k
  obtain ⟨hx, hZ, hby, -⟩ := H
  subst hp
  intro T w
  have w' := w
  obtain ⟨locs, X, F, O⟩ := w
  obtain ⟨t, o, hs, r⟩ := g T w'
  exact ⟨t, o, XT.dup2 X.here hx rfl (hb hby hd) rfl hc hc' hs, r⟩
theorem s_dup2l (H : Ok Z k R Q y b ml rt) {x : Int64} (hd : decode b pc = .ok (.dup2, 1)) (hp : pc + 1 = pc') (g : Go Z k cn sn M pc' Ls (.long x :: .long x :: st)) : Go Z k cn sn M pc Ls (.long x :: st) := by
  obtain ⟨p, l, e, R', s, m, args, below, meth, c, Q'⟩ := k
  obtain ⟨hx, hZ, hby, -⟩ := H
  subst hp
  intro T w
  have w' := w
  obtain ⟨locs, X, F, O⟩ := w
  obtain ⟨t, o, hs, r⟩ := g T w'
  exact ⟨t, o, XT.dup2L X.here hx rfl (hb hby hd) rfl hs, r⟩
theorem s_pop (H : Ok Z k R Q y b ml rt) {v : Value} (hd : decode b pc = .ok (.pop, 1)) (hc : v.category = 1) (hp : pc + 1 = pc') (g : Go Z k cn sn M pc' Ls (st)) : Go Z k cn sn M pc Ls (v :: st) := by
  obtain ⟨p, l, e, R', s, m, args, below, meth, c, Q'⟩ := k
  obtain ⟨hx, hZ, hby, -⟩ := H
  subst hp
  intro T w
  have w' := w
  obtain ⟨locs, X, F, O⟩ := w
  obtain ⟨t, o, hs, r⟩ := g T w'
  exact ⟨t, o, XS.pop X.here hx rfl (hb hby hd) rfl hc hs, r⟩
theorem s_iinc (H : Ok Z k R Q y b ml rt) {i : Nat} {cst : Int} {x u : Int32} {L' : Int32 → Array Slot} (hd : decode b pc = .ok (.iinc i cst, 3)) (hl0 : Ls[i]? = some (.val (.int x))) (hu : u = Int32.ofInt cst) (hl : ∀ z, storeLocals Ls i (.int z) = some (L' z)) (hp : pc + 3 = pc') (g : ∀ z, z = x + u → Go Z k cn sn M pc' (L' z) st) : Go Z k cn sn M pc Ls st := by
  obtain ⟨p, l, e, R', s, m, args, below, meth, c, Q'⟩ := k
  obtain ⟨hx, hZ, hby, -⟩ := H
  subst hp hu
  intro T w
  have w' := w
  obtain ⟨locs, X, F, O⟩ := w
  obtain ⟨t, o, hs, r⟩ := g _ rfl T w'
  exact ⟨t, o, XS.iinc X.here hx rfl (hb hby hd) hl0 (hl _) hs, r⟩
theorem s_goto (H : Ok Z k R Q y b ml rt) {o : Int} (hd : decode b pc = .ok (.goto o, 3)) (ho : (pc : Int) + o = pc') (g : Go Z k cn sn M pc' Ls st) : Go Z k cn sn M pc Ls st := by
  obtain ⟨p, l, e, R', s, m, args, below, meth, c, Q'⟩ := k
  obtain ⟨hx, hZ, hby, -⟩ := H
  intro T w
  have w' := w
  obtain ⟨locs, X, F, O⟩ := w
  obtain ⟨t, o, hs, r⟩ := g T w'
  exact ⟨t, o, XS.goto X.here hx rfl (pc0 := pc) rfl (hb hby hd) (by omega) (by omega) hs, r⟩
theorem s_if (H : Ok Z k R Q y b ml rt) {cd : ClassFile.Cond} {o : Int} {x : Int32} {py : Nat} {φ : Prop} (hd : decode b pc = .ok (.ifCond cd o, 3)) (hq : ifCond.holds cd x = true ↔ φ) (ho : (pc : Int) + o = py) (hp : pc + 3 = pc') (gy : φ → Go Z k cn sn M py Ls st) (gn : ¬ φ → Go Z k cn sn M pc' Ls st) : Go Z k cn sn M pc Ls (.int x :: st) := by
  obtain ⟨p, l, e, R', s, m, args, below, meth, c, Q'⟩ := k
  obtain ⟨hx, hZ, hby, -⟩ := H
  subst hp
  intro T w
  have w' := w
  obtain ⟨locs, X, F, O⟩ := w
  cases hh : ifCond.holds cd x with
  | true =>
    obtain ⟨t, o, hs, r⟩ := gy (hq.mp hh) T w'
    exact ⟨t, o, XS.ifYes X.here hx rfl (pc0 := pc) rfl (hb hby hd) rfl hh (by omega) (by omega) hs, r⟩
  | false =>
    obtain ⟨t, o, hs, r⟩ := gn (fun q => by rw [hq.mpr q] at hh; cases hh) T w'
    exact ⟨t, o, XS.ifNo X.here hx rfl (hb hby hd) rfl hh hs, r⟩
theorem s_icmp (H : Ok Z k R Q y b ml rt) {cd : ClassFile.Cond} {o : Int} {x u : Int32} {py : Nat} {φ : Prop} (hd : decode b pc = .ok (.if_icmp cd o, 3)) (hq : if_icmp.holds cd x u = true ↔ φ) (ho : (pc : Int) + o = py) (hp : pc + 3 = pc') (gy : φ → Go Z k cn sn M py Ls st) (gn : ¬ φ → Go Z k cn sn M pc' Ls st) : Go Z k cn sn M pc Ls (.int u :: .int x :: st) := by
  obtain ⟨p, l, e, R', s, m, args, below, meth, c, Q'⟩ := k
  obtain ⟨hx, hZ, hby, -⟩ := H
  subst hp
  intro T w
  have w' := w
  obtain ⟨locs, X, F, O⟩ := w
  cases hh : if_icmp.holds cd x u with
  | true =>
    obtain ⟨t, o, hs, r⟩ := gy (hq.mp hh) T w'
    exact ⟨t, o, XS.icmpYes X.here hx rfl (pc0 := pc) rfl (hb hby hd) rfl hh (by omega) (by omega) hs, r⟩
  | false =>
    obtain ⟨t, o, hs, r⟩ := gn (fun q => by rw [hq.mpr q] at hh; cases hh) T w'
    exact ⟨t, o, XS.icmpNo X.here hx rfl (hb hby hd) rfl hh hs, r⟩
theorem q_eq {x u : Int32} : if_icmp.holds .eq x u = true ↔ x = u := by simp [if_icmp.holds]
theorem z_eq {x : Int32} : ifCond.holds .eq x = true ↔ x = 0 := by rw [if0]; exact q_eq
theorem q_ne {x u : Int32} : if_icmp.holds .ne x u = true ↔ ¬ x = u := by simp [if_icmp.holds]
theorem z_ne {x : Int32} : ifCond.holds .ne x = true ↔ ¬ x = 0 := by rw [if0]; exact q_ne
theorem q_lt {x u : Int32} : if_icmp.holds .lt x u = true ↔ x < u := by simp [if_icmp.holds]
theorem z_lt {x : Int32} : ifCond.holds .lt x = true ↔ x < 0 := by rw [if0]; exact q_lt
theorem q_ge {x u : Int32} : if_icmp.holds .ge x u = true ↔ u ≤ x := by simp [if_icmp.holds]
theorem z_ge {x : Int32} : ifCond.holds .ge x = true ↔ 0 ≤ x := by rw [if0]; exact q_ge
theorem q_gt {x u : Int32} : if_icmp.holds .gt x u = true ↔ u < x := by simp [if_icmp.holds]
theorem z_gt {x : Int32} : ifCond.holds .gt x = true ↔ 0 < x := by rw [if0]; exact q_gt
theorem q_le {x u : Int32} : if_icmp.holds .le x u = true ↔ x ≤ u := by simp [if_icmp.holds]
theorem z_le {x : Int32} : ifCond.holds .le x = true ↔ x ≤ 0 := by rw [if0]; exact q_le
theorem l_eq {x u : Int64} : ifCond.holds .eq (lcmpW x u) = true ↔ x = u := z_eq.trans (lw_eq x u)
theorem l_ne {x u : Int64} : ifCond.holds .ne (lcmpW x u) = true ↔ ¬ x = u := z_ne.trans (not_congr (lw_eq x u))
theorem l_lt {x u : Int64} : ifCond.holds .lt (lcmpW x u) = true ↔ x < u := z_lt.trans (lw_lt x u)
theorem l_gt {x u : Int64} : ifCond.holds .gt (lcmpW x u) = true ↔ u < x := z_gt.trans (lw_gt x u)
theorem l_ge {x u : Int64} : ifCond.holds .ge (lcmpW x u) = true ↔ u ≤ x := z_ge.trans (by rw [lcW]; exact lc_ge x u)
theorem l_le {x u : Int64} : ifCond.holds .le (lcmpW x u) = true ↔ x ≤ u := z_le.trans (by rw [lcW]; exact lc_le x u)
theorem s_ifnull (H : Ok Z k R Q y b ml rt) {o : Int} {a : Addr} (hd : decode b pc = .ok (.ifnull o, 3)) (hp : pc + 3 = pc') (g : Go Z k cn sn M pc' Ls st) : Go Z k cn sn M pc Ls (.ref a :: st) := by
  obtain ⟨p, l, e, R', s, m, args, below, meth, c, Q'⟩ := k
  obtain ⟨hx, hZ, hby, -⟩ := H
  subst hp
  intro T w
  have w' := w
  obtain ⟨locs, X, F, O⟩ := w
  obtain ⟨t, o, hs, r⟩ := g T w'
  exact ⟨t, o, XS.ifnullNo X.here hx rfl (hb hby hd) rfl hs, r⟩
theorem s_acmpne (H : Ok Z k R Q y b ml rt) {o : Int} {a a' : Addr} {py : Nat} (hd : decode b pc = .ok (.if_acmp .ne o, 3)) (hne : a ≠ a') (ho : (pc : Int) + o = py) (g : Go Z k cn sn M py Ls st) : Go Z k cn sn M pc Ls (.ref a' :: .ref a :: st) := by
  obtain ⟨p, l, e, R', s, m, args, below, meth, c, Q'⟩ := k
  obtain ⟨hx, hZ, hby, -⟩ := H
  intro T w
  have w' := w
  obtain ⟨locs, X, F, O⟩ := w
  obtain ⟨t, o, hs, r⟩ := g T w'
  exact ⟨t, o, XS.acmpYes X.here hx rfl (pc0 := pc) rfl (hb hby hd) rfl (by simp [if_acmp.holds, hne]) (by omega) (by omega) hs, r⟩
theorem s_acmpeq (H : Ok Z k R Q y b ml rt) {o : Int} {a a' : Addr} (hd : decode b pc = .ok (.if_acmp .eq o, 3)) (hne : a ≠ a') (hp : pc + 3 = pc') (g : Go Z k cn sn M pc' Ls st) : Go Z k cn sn M pc Ls (.ref a' :: .ref a :: st) := by
  obtain ⟨p, l, e, R', s, m, args, below, meth, c, Q'⟩ := k
  obtain ⟨hx, hZ, hby, -⟩ := H
  subst hp
  intro T w
  have w' := w
  obtain ⟨locs, X, F, O⟩ := w
  obtain ⟨t, o, hs, r⟩ := g T w'
  exact ⟨t, o, XS.acmpNo X.here hx rfl (hb hby hd) rfl (by simp [if_acmp.holds, hne]) hs, r⟩
theorem s_ldc2 (H : Ok Z k R Q y b ml rt) {i : Nat} {z : Int64} (hd : decode b pc = .ok (.ldc2_w i, 3)) (w1 : Jvm.Cond.constantLong y.cls i z ∈ tables_1) (hp : pc + 3 = pc') (g : Go Z k cn sn M pc' Ls (.long z :: st)) : Go Z k cn sn M pc Ls st := by
  obtain ⟨p, l, e, R', s, m, args, below, meth, c, Q'⟩ := k
  obtain ⟨hx, hZ, hby, -, hown, -, -, -, ⟨a0, hw⟩, -⟩ := H
  subst hp
  intro T w
  have w' := w
  obtain ⟨locs, X, F, O⟩ := w
  obtain ⟨t, o, hs, r⟩ := g T w'
  exact ⟨t, o, X.ldc2Long hx hown (mvT hZ (hw _ w1)) (g := mkF m pc Ls st) rfl (hb hby hd) _ hs, r⟩
theorem s_ldc (H : Ok Z k R Q y b ml rt) {i : Nat} {z : Int32} (hd : decode b pc = .ok (.ldc i, 2)) (w1 : Jvm.Cond.constant y.cls i z ∈ tables_1) (hp : pc + 2 = pc') (g : Go Z k cn sn M pc' Ls (.int z :: st)) : Go Z k cn sn M pc Ls st := by
  obtain ⟨p, l, e, R', s, m, args, below, meth, c, Q'⟩ := k
  obtain ⟨hx, hZ, hby, -, hown, -, -, -, ⟨a0, hw⟩, -⟩ := H
  subst hp
  intro T w
  have w' := w
  obtain ⟨locs, X, F, O⟩ := w
  obtain ⟨t, o, hs, r⟩ := g T w'
  exact ⟨t, o, X.ldcInt hx hown (mvT hZ (hw _ w1)) (g := mkF m pc Ls st) rfl (hb hby hd) _ hs, r⟩
/-! the heap's steps -/
theorem nb_of {n : Nat} {j : Int32} (h0 : ¬ j < 0) (hl : j.toNatClampNeg < n) : ¬ (j < 0 ∨ n ≤ j.toNatClampNeg) := fun q => q.elim h0 fun r => Nat.not_lt.mpr r hl
theorem s_alenI (H : Ok Z k R Q y b ml rt) {i : Nat} {a : Addr} {ty : FieldType} {vs : List Int32} {z : Int32} (hd : decode b pc = .ok (.arraylength, 1)) (hi : M[i]? = some (a, ArI Z ty vs)) (hz : z = vs.length.toInt32) (hp : pc + 1 = pc') (g : Go Z k cn sn M pc' Ls (.int z :: st)) : Go Z k cn sn M pc Ls (.ref a :: st) := by
  obtain ⟨p, l, e, R', s, m, args, below, meth, c, Q'⟩ := k
  obtain ⟨hx, hZ, hby, -⟩ := H
  subst hp hz
  intro T w
  have w' := w
  obtain ⟨locs, X, F, O⟩ := w
  obtain ⟨-, cl, q1, q2⟩ := O.2.1 i _ hi
  obtain ⟨t, o, hs, r⟩ := g T w'
  exact ⟨t, o, X.arraylength hx q1 (State.isArrayOf_alike hZ.alike q2.1) (g := mkF m pc Ls (.ref a :: st)) rfl rfl (hb hby hd) _ (by rw [q2.size]; exact hs), r⟩
theorem s_alenL (H : Ok Z k R Q y b ml rt) {i : Nat} {a : Addr} {vs : List Int64} {z : Int32} (hd : decode b pc = .ok (.arraylength, 1)) (hi : M[i]? = some (a, ArL Z vs)) (hz : z = vs.length.toInt32) (hp : pc + 1 = pc') (g : Go Z k cn sn M pc' Ls (.int z :: st)) : Go Z k cn sn M pc Ls (.ref a :: st) := by
  obtain ⟨p, l, e, R', s, m, args, below, meth, c, Q'⟩ := k
  obtain ⟨hx, hZ, hby, -⟩ := H
  subst hp hz
  intro T w
  have w' := w
  obtain ⟨locs, X, F, O⟩ := w
  obtain ⟨-, cl, q1, q2⟩ := O.2.1 i _ hi
  obtain ⟨t, o, hs, r⟩ := g T w'
  exact ⟨t, o, X.arraylength hx q1 (State.isArrayOf_alike hZ.alike q2.1) (g := mkF m pc Ls (.ref a :: st)) rfl rfl (hb hby hd) _ (by rw [q2.size]; exact hs), r⟩
theorem s_iaload (H : Ok Z k R Q y b ml rt) {i : Nat} {a : Addr} {vs : List Int32} {j : Int32} {x : Int32} (hd : decode b pc = .ok (.iaload, 1)) (hi : M[i]? = some (a, ArI Z .int vs)) (h0 : ¬ j < 0) {jn : Nat} (hjn : j.toNatClampNeg = jn) (hv : vs[jn]? = some x) (hp : pc + 1 = pc') (g : Go Z k cn sn M pc' Ls (.int x :: st)) : Go Z k cn sn M pc Ls (.int j :: .ref a :: st) := by
  obtain ⟨p, l, e, R', s, m, args, below, meth, c, Q'⟩ := k
  obtain ⟨hx, hZ, hby, -⟩ := H
  subst hp hjn
  intro T w
  have w' := w
  obtain ⟨locs, X, F, O⟩ := w
  obtain ⟨-, cl, q1, q2⟩ := O.2.1 i _ hi
  obtain ⟨t, o, hs, r⟩ := g T w'
  have hlt : j.toNatClampNeg < vs.length := (List.getElem?_eq_some_iff.mp hv).1
  exact ⟨t, o, X.iaload hx (v := .int x) q1 (State.isArrayOf_alike hZ.alike q2.1) q2.2.1 (nb_of h0 (by rw [q2.size]; exact hlt)) (by rw [q2.2.2.1]; simp [hv]) (g := mkF m pc Ls (.int j :: .ref a :: st)) rfl rfl (hb hby hd) _ hs, r⟩
theorem s_baload (H : Ok Z k R Q y b ml rt) {i : Nat} {a : Addr} {vs : List Int32} {j : Int32} {x : Int32} (hd : decode b pc = .ok (.baload, 1)) (hi : M[i]? = some (a, ArI Z .byte vs)) (h0 : ¬ j < 0) {jn : Nat} (hjn : j.toNatClampNeg = jn) (hv : vs[jn]? = some x) (hp : pc + 1 = pc') (g : Go Z k cn sn M pc' Ls (.int x :: st)) : Go Z k cn sn M pc Ls (.int j :: .ref a :: st) := by
  obtain ⟨p, l, e, R', s, m, args, below, meth, c, Q'⟩ := k
  obtain ⟨hx, hZ, hby, -⟩ := H
  subst hp hjn
  intro T w
  have w' := w
  obtain ⟨locs, X, F, O⟩ := w
  obtain ⟨-, cl, q1, q2⟩ := O.2.1 i _ hi
  obtain ⟨t, o, hs, r⟩ := g T w'
  have hlt : j.toNatClampNeg < vs.length := (List.getElem?_eq_some_iff.mp hv).1
  exact ⟨t, o, X.baloadBytes hx (v := .int x) q1 (State.isArrayOf_alike hZ.alike q2.1) q2.2.1 (nb_of h0 (by rw [q2.size]; exact hlt)) (by rw [q2.2.2.1]; simp [hv]) (g := mkF m pc Ls (.int j :: .ref a :: st)) rfl rfl (hb hby hd) _ hs, r⟩
theorem s_zaload (H : Ok Z k R Q y b ml rt) {i : Nat} {a : Addr} {vs : List Int32} {j : Int32} {x : Int32} (hd : decode b pc = .ok (.baload, 1)) (hi : M[i]? = some (a, ArI Z .boolean vs)) (h0 : ¬ j < 0) {jn : Nat} (hjn : j.toNatClampNeg = jn) (hv : vs[jn]? = some x) (hp : pc + 1 = pc') (g : Go Z k cn sn M pc' Ls (.int x :: st)) : Go Z k cn sn M pc Ls (.int j :: .ref a :: st) := by
  obtain ⟨p, l, e, R', s, m, args, below, meth, c, Q'⟩ := k
  obtain ⟨hx, hZ, hby, -⟩ := H
  subst hp hjn
  intro T w
  have w' := w
  obtain ⟨locs, X, F, O⟩ := w
  obtain ⟨-, cl, q1, q2⟩ := O.2.1 i _ hi
  obtain ⟨t, o, hs, r⟩ := g T w'
  have hlt : j.toNatClampNeg < vs.length := (List.getElem?_eq_some_iff.mp hv).1
  exact ⟨t, o, X.baloadBooleans hx (v := .int x) q1 (State.isArrayOf_alike hZ.alike q2.1) q2.2.1 (nb_of h0 (by rw [q2.size]; exact hlt)) (by rw [q2.2.2.1]; simp [hv]) (g := mkF m pc Ls (.int j :: .ref a :: st)) rfl rfl (hb hby hd) _ hs, r⟩
theorem s_laload (H : Ok Z k R Q y b ml rt) {i : Nat} {a : Addr} {vs : List Int64} {j : Int32} {x : Int64} (hd : decode b pc = .ok (.laload, 1)) (hi : M[i]? = some (a, ArL Z vs)) (h0 : ¬ j < 0) {jn : Nat} (hjn : j.toNatClampNeg = jn) (hv : vs[jn]? = some x) (hp : pc + 1 = pc') (g : Go Z k cn sn M pc' Ls (.long x :: st)) : Go Z k cn sn M pc Ls (.int j :: .ref a :: st) := by
  obtain ⟨p, l, e, R', s, m, args, below, meth, c, Q'⟩ := k
  obtain ⟨hx, hZ, hby, -⟩ := H
  subst hp hjn
  intro T w
  have w' := w
  obtain ⟨locs, X, F, O⟩ := w
  obtain ⟨-, cl, q1, q2⟩ := O.2.1 i _ hi
  obtain ⟨t, o, hs, r⟩ := g T w'
  have hlt : j.toNatClampNeg < vs.length := (List.getElem?_eq_some_iff.mp hv).1
  exact ⟨t, o, X.laload hx (v := .long x) q1 (State.isArrayOf_alike hZ.alike q2.1) q2.2.1 (nb_of h0 (by rw [q2.size]; exact hlt)) (by rw [q2.2.2.1]; simp [hv]) (g := mkF m pc Ls (.int j :: .ref a :: st)) rfl rfl (hb hby hd) _ hs, r⟩
theorem s_iastore (H : Ok Z k R Q y b ml rt) {i : Nat} {a : Addr} {vs : List Int32} {j : Int32} {x : Int32} (hd : decode b pc = .ok (.iastore, 1)) (hi : M[i]? = some (a, ArI Z .int vs)) (h0 : ¬ j < 0) {jn : Nat} (hjn : j.toNatClampNeg = jn) (hj : jn < vs.length) (hp : pc + 1 = pc') (g : Go Z k cn sn (M.set i (a, ArI Z .int (vs.set jn x))) pc' Ls st) : Go Z k cn sn M pc Ls (.int x :: .int j :: .ref a :: st) := by
  obtain ⟨p, l, e, R', s, m, args, below, meth, c, Q'⟩ := k
  obtain ⟨hx, hZ, hby, -⟩ := H
  subst hp hjn
  intro T w
  obtain ⟨locs, X, F, O⟩ := w
  obtain ⟨q0, cl, q1, q2⟩ := O.2.1 i _ hi
  obtain ⟨T', h', X', e', W, sg⟩ := stI X hx hZ rfl (q2.arr q1) (j := j) (nb_of h0 (by rw [q2.size]; exact hj)) (g := mkF m pc Ls (.int x :: .int j :: .ref a :: st)) rfl rfl (hb hby hd)
  obtain ⟨t, o, hs, r⟩ := g T' ⟨_, X', Fr.snoc X' F q0, e' ▸ O.upd hi W fun c _ hc => hc.put _ rfl⟩
  exact ⟨t, o, sg _ hs, r⟩
theorem s_bastore (H : Ok Z k R Q y b ml rt) {i : Nat} {a : Addr} {vs : List Int32} {j : Int32} {x0 x : Int32} (hd : decode b pc = .ok (.bastore, 1)) (hi : M[i]? = some (a, ArI Z .byte vs)) (h0 : ¬ j < 0) {jn : Nat} (hjn : j.toNatClampNeg = jn) (hj : jn < vs.length) (hn : x = nar .byte x0) (hp : pc + 1 = pc') (g : Go Z k cn sn (M.set i (a, ArI Z .byte (vs.set jn x))) pc' Ls st) : Go Z k cn sn M pc Ls (.int x0 :: .int j :: .ref a :: st) := by
  obtain ⟨p, l, e, R', s, m, args, below, meth, c, Q'⟩ := k
  obtain ⟨hx, hZ, hby, -⟩ := H
  subst hp hjn hn
  intro T w
  obtain ⟨locs, X, F, O⟩ := w
  obtain ⟨q0, cl, q1, q2⟩ := O.2.1 i _ hi
  obtain ⟨T', h', X', e', W, sg⟩ := stB X hx hZ rfl (q2.arr q1) (j := j) (nb_of h0 (by rw [q2.size]; exact hj)) (g := mkF m pc Ls (.int x0 :: .int j :: .ref a :: st)) rfl rfl (hb hby hd)
  obtain ⟨t, o, hs, r⟩ := g T' ⟨_, X', Fr.snoc X' F q0, e' ▸ O.upd hi W fun c _ hc => hc.put _ (fits_nar_byte _)⟩
  exact ⟨t, o, sg _ hs, r⟩
theorem s_zastore (H : Ok Z k R Q y b ml rt) {i : Nat} {a : Addr} {vs : List Int32} {j : Int32} {x0 x : Int32} (hd : decode b pc = .ok (.bastore, 1)) (hi : M[i]? = some (a, ArI Z .boolean vs)) (h0 : ¬ j < 0) {jn : Nat} (hjn : j.toNatClampNeg = jn) (hj : jn < vs.length) (hn : x = nar .boolean x0) (hp : pc + 1 = pc') (g : Go Z k cn sn (M.set i (a, ArI Z .boolean (vs.set jn x))) pc' Ls st) : Go Z k cn sn M pc Ls (.int x0 :: .int j :: .ref a :: st) := by
  obtain ⟨p, l, e, R', s, m, args, below, meth, c, Q'⟩ := k
  obtain ⟨hx, hZ, hby, -⟩ := H
  subst hp hjn hn
  intro T w
  obtain ⟨locs, X, F, O⟩ := w
  obtain ⟨q0, cl, q1, q2⟩ := O.2.1 i _ hi
  obtain ⟨T', h', X', e', W, sg⟩ := stZ X hx hZ rfl (q2.arr q1) (j := j) (nb_of h0 (by rw [q2.size]; exact hj)) (g := mkF m pc Ls (.int x0 :: .int j :: .ref a :: st)) rfl rfl (hb hby hd)
  obtain ⟨t, o, hs, r⟩ := g T' ⟨_, X', Fr.snoc X' F q0, e' ▸ O.upd hi W fun c _ hc => hc.put _ (fits_nar_bool _)⟩
  exact ⟨t, o, sg _ hs, r⟩
theorem s_lastore (H : Ok Z k R Q y b ml rt) {i : Nat} {a : Addr} {vs : List Int64} {j : Int32} {x : Int64} (hd : decode b pc = .ok (.lastore, 1)) (hi : M[i]? = some (a, ArL Z vs)) (h0 : ¬ j < 0) {jn : Nat} (hjn : j.toNatClampNeg = jn) (hj : jn < vs.length) (hp : pc + 1 = pc') (g : Go Z k cn sn (M.set i (a, ArL Z (vs.set jn x))) pc' Ls st) : Go Z k cn sn M pc Ls (.long x :: .int j :: .ref a :: st) := by
  obtain ⟨p, l, e, R', s, m, args, below, meth, c, Q'⟩ := k
  obtain ⟨hx, hZ, hby, -⟩ := H
  subst hp hjn
  intro T w
  obtain ⟨locs, X, F, O⟩ := w
  obtain ⟨q0, cl, q1, q2⟩ := O.2.1 i _ hi
  obtain ⟨T', h', X', e', W, sg⟩ := stJ X hx hZ rfl (q2.arr q1) (j := j) (nb_of h0 (by rw [q2.size]; exact hj)) (g := mkF m pc Ls (.long x :: .int j :: .ref a :: st)) rfl rfl (hb hby hd)
  obtain ⟨t, o, hs, r⟩ := g T' ⟨_, X', Fr.snoc X' F q0, e' ▸ O.upd hi W fun c _ hc => hc.put _⟩
  exact ⟨t, o, sg _ hs, r⟩
theorem s_getf (H : Ok Z k R Q y b ml rt) {i j idx : Nat} {a : Addr} {C O n d : String} {fs : List Fd} {v : Value} (hd : decode b pc = .ok (.getfield idx, 3)) (w1 : Jvm.Cond.fieldLink y.cls idx O n d ∈ tables_1) (hi : M[i]? = some (a, Obj Z C fs)) (hj : fs[j]? = some (O, n, d, v)) (hp : pc + 3 = pc') (g : Go Z k cn sn M pc' Ls (v :: st)) : Go Z k cn sn M pc Ls (.ref a :: st) := by
  obtain ⟨p, l, e, R', s, m, args, below, meth, c, Q'⟩ := k
  obtain ⟨hx, hZ, hby, -, hown, -, -, -, ⟨a0, hw⟩, -⟩ := H
  subst hp
  intro T w
  obtain ⟨locs, X, F, OO⟩ := w
  obtain ⟨-, cl, q1, q2⟩ := OO.2.1 i _ hi
  obtain ⟨T', X', e', sg⟩ := getF X hx hZ hown (host := "") (Or.inl (hw _ w1)) Via.refl rfl ((q2.1 _ _ q1).2 j _ hj) (g := mkF m pc Ls (.ref a :: st)) rfl rfl (hb hby hd)
  obtain ⟨t, o, hs, r⟩ := g T' ⟨_, X', F, e' ▸ OO⟩
  exact ⟨t, o, sg _ hs, r⟩
theorem s_getfN (H : Ok Z k R Q y b ml rt) {i j idx : Nat} {a : Addr} {C O n d host : String} {fs : List Fd} {v : Value} (hd : decode b pc = .ok (.getfield idx, 3)) (w1 : Jvm.Cond.fieldLinkNest y.cls idx O n d host ∈ tables_1) (hi : M[i]? = some (a, Obj Z C fs)) (hj : fs[j]? = some (O, n, d, v)) (hp : pc + 3 = pc') (g : Go Z k cn sn M pc' Ls (v :: st)) : Go Z k cn sn M pc Ls (.ref a :: st) := by
  obtain ⟨p, l, e, R', s, m, args, below, meth, c, Q'⟩ := k
  obtain ⟨hx, hZ, hby, -, hown, -, -, -, ⟨a0, hw⟩, -⟩ := H
  subst hp
  intro T w
  obtain ⟨locs, X, F, OO⟩ := w
  obtain ⟨-, cl, q1, q2⟩ := OO.2.1 i _ hi
  obtain ⟨T', X', e', sg⟩ := getF X hx hZ hown (host := host) (Or.inr (hw _ w1)) Via.refl rfl ((q2.1 _ _ q1).2 j _ hj) (g := mkF m pc Ls (.ref a :: st)) rfl rfl (hb hby hd)
  obtain ⟨t, o, hs, r⟩ := g T' ⟨_, X', F, e' ▸ OO⟩
  exact ⟨t, o, sg _ hs, r⟩
theorem s_putf (H : Ok Z k R Q y b ml rt) {i j idx kk : Nat} {a : Addr} {C O n d : String} {fs : List Fd} {v v0 : Value} {ty : FieldType} (hd : decode b pc = .ok (.putfield idx, 3)) (w1 : Jvm.Cond.fieldLink y.cls idx O n d ∈ tables_1) (w2 : Jvm.Cond.lays C O n d ∈ tables_1 ∨ (Jvm.Cond.laysFinal C O n d ∈ tables_1 ∧ y.cls = O ∧ y.name = "<init>")) (w3 : Jvm.Cond.instantiable C kk ∈ tables_1)
    (hty : parseFieldDescriptor d = some ty) (hn : narrow ty v = v) (hf : fits ty v = true) (hi : M[i]? = some (a, Obj Z C fs)) (hj : fs[j]? = some (O, n, d, v0)) (hp : pc + 3 = pc') (g : Go Z k cn sn (M.set i (a, Obj Z C (fs.set j (O, n, d, v)))) pc' Ls st) : Go Z k cn sn M pc Ls (v :: .ref a :: st) := by
  obtain ⟨p, l, e, R', s, m, args, below, meth, c, Q'⟩ := k
  obtain ⟨hx, hZ, hby, -, hown, hnm, -, -, ⟨a0, hw⟩, -⟩ := H
  subst hp
  intro T w
  obtain ⟨locs, X, F, OO⟩ := w
  obtain ⟨q0, cl, q1, q2⟩ := OO.2.1 i _ hi
  obtain ⟨T', h', X', e', W, sg⟩ := putF X hx hZ hown (host := "") (Or.inl (hw _ w1)) Via.refl rfl ((q2.1 _ _ q1).2 j _ hj) (q2.1 _ _ q1).1 (w2.imp (fun q => hw _ q) fun q => ⟨hw _ q.1, q.2.1, hnm.trans q.2.2⟩) (hw _ w3) hty hn hf (g := mkF m pc Ls (v :: .ref a :: st)) rfl rfl (hb hby hd)
  obtain ⟨t, o, hs, r⟩ := g T' ⟨_, X', Fr.snoc X' F q0, e' ▸ OO.upd hi W fun c hc1 hc => hc.put hj hc1 W⟩
  exact ⟨t, o, sg _ hs, r⟩
def Dflt (C : String) (f : Fd) : Prop := (Jvm.Cond.lays C f.1 f.2.1 f.2.2.1 ∈ tables_1 ∨ Jvm.Cond.laysFinal C f.1 f.2.1 f.2.2.1 ∈ tables_1) ∧ ∃ ty, parseFieldDescriptor f.2.2.1 = some ty ∧ f.2.2.2 = defaultValue ty
theorem s_new (H : Ok Z k R Q y b ml rt) {idx n cn' sn' : Nat} {C : String} (fs : List Fd) (hd : decode b pc = .ok (.new idx, 3)) (w1 : Jvm.Cond.classLink y.cls idx C ∈ tables_1) (w2 : Jvm.Cond.instantiable C n ∈ tables_1) (w3 : Jvm.Cond.initialized C ∈ tables_1) (hD : ∀ f ∈ fs, Dflt C f) (hN : (fs.map fun f => f.2.1).Nodup) (hc : cn + 1 = cn') (hs : sn + n = sn') (hc' : cn' ≤ R.cells) (hs' : sn' ≤ R.slots) (hp : pc + 3 = pc')
    (g : ∀ a, Go Z k cn' sn' ((a, Obj Z C fs) :: M) pc' Ls (.ref a :: st)) : Go Z k cn sn M pc Ls st := by
  obtain ⟨p, l, e, R', s, m, args, below, meth, c, Q'⟩ := k
  obtain ⟨hx, hZ, hby, -, hown, hnm, -, -, ⟨a0, hw⟩, rfl, -⟩ := H
  subst hp hc hs
  intro T w
  obtain ⟨locs, X, F, OO⟩ := w
  obtain ⟨T', h', X', e', E, A, D, ⟨cell, hcell, -⟩, sg⟩ := newO X hx hZ hown (hw _ w1) (hw _ w2) (hw _ w3) rfl (g := mkF m pc Ls st) rfl (hb hby hd) hc' hs'
  have hL : ∀ f ∈ fs, Laid Z a0 C f.1 f.2.1 f.2.2.1 := fun f hf => (hD f hf).1.imp (fun q => hw _ q) fun q => hw _ q
  have hB : Obj Z C fs cell := by
    refine ⟨fun h2 a2 hc2 => ⟨exa_at_cell A hcell hc2, fun i f hf => ?_⟩, fun i j f f' hf hf' es => ?_⟩
    · have hm := List.mem_of_getElem? hf
      obtain ⟨-, ty, h1, h2⟩ := hD f hm
      rw [h2]
      exact fld_at_cell (D (hL f hm) h1) hcell hc2
    · obtain ⟨-, ty, h1, -⟩ := hD f (List.mem_of_getElem? hf)
      obtain ⟨-, ty', h1', -⟩ := hD f' (List.mem_of_getElem? hf')
      have hne : f.2.1 = f'.2.1 := Classical.byContradiction fun q => slot_ne (hL f (List.mem_of_getElem? hf)) (hL f' (List.mem_of_getElem? hf')) q h1 h1' es
      rw [List.nodup_iff_pairwise_ne, List.pairwise_iff_getElem] at hN
      obtain ⟨hi, rfl⟩ := List.getElem?_eq_some_iff.mp hf
      obtain ⟨hj, rfl⟩ := List.getElem?_eq_some_iff.mp hf'
      rcases Nat.lt_trichotomy i j with lt | rfl | lt
      · exact (hN i j (by simpa using hi) (by simpa using hj) lt (by simpa using hne)).elim
      · rfl
      · exact (hN j i (by simpa using hj) (by simpa using hi) lt (by simpa using hne.symm)).elim
  obtain ⟨t, o, hs, r⟩ := g _ T' ⟨_, X', F, e' ▸ OO.new E hcell hB⟩
  exact ⟨t, o, sg _ hs, r⟩
theorem s_newarr_int (H : Ok Z k R Q y b ml rt) {cn' sn' cap : Nat} {n : Int32} (hd : decode b pc = .ok (.newarray .int, 2)) (w1 : Jvm.Cond.arrayClass .int ∈ tables_1) (hn : ¬ n < 0) (hcap : n.toNatClampNeg ≤ cap) (hb8 : cap * 8 ≤ 536870912) (hc : cn + 1 = cn') (hs : sn + cap = sn') (hc' : cn' ≤ R.cells) (hs' : sn' ≤ R.slots) (hp : pc + 2 = pc')
    (g : ∀ a, Go Z k cn' sn' ((a, ArI Z .int (List.replicate n.toNatClampNeg 0)) :: M) pc' Ls (.ref a :: st)) : Go Z k cn sn M pc Ls (.int n :: st) := by
  obtain ⟨p, l, e, R', s, m, args, below, meth, c, Q'⟩ := k
  obtain ⟨hx, hZ, hby, -, hown, hnm, -, -, ⟨a0, hw⟩, rfl, -⟩ := H
  subst hp hc hs
  intro T w
  obtain ⟨locs, X, F, OO⟩ := w
  obtain ⟨T', h', cA, X', e', E, A, sg⟩ := newP X hx hZ (aty := .int) (hw _ w1) rfl (g := mkF m pc Ls (.int n :: st)) rfl (hb hby hd) rfl hn hcap hb8 hc' hs'
  have hB : ArI Z .int (List.replicate n.toNatClampNeg 0) (newA cA .int n) := ⟨A.2.1, A.2.2, by simp [newA, defaultValue], by simp; omega, fun x hx => by rw [List.eq_of_mem_replicate hx]; rfl⟩
  obtain ⟨t, o, hs, r⟩ := g _ T' ⟨_, X', F, e' ▸ OO.new E A.1 hB⟩
  exact ⟨t, o, sg _ hs, r⟩
theorem s_newarr_byte (H : Ok Z k R Q y b ml rt) {cn' sn' cap : Nat} {n : Int32} (hd : decode b pc = .ok (.newarray .byte, 2)) (w1 : Jvm.Cond.arrayClass .byte ∈ tables_1) (hn : ¬ n < 0) (hcap : n.toNatClampNeg ≤ cap) (hb8 : cap * 8 ≤ 536870912) (hc : cn + 1 = cn') (hs : sn + cap = sn') (hc' : cn' ≤ R.cells) (hs' : sn' ≤ R.slots) (hp : pc + 2 = pc')
    (g : ∀ a, Go Z k cn' sn' ((a, ArI Z .byte (List.replicate n.toNatClampNeg 0)) :: M) pc' Ls (.ref a :: st)) : Go Z k cn sn M pc Ls (.int n :: st) := by
  obtain ⟨p, l, e, R', s, m, args, below, meth, c, Q'⟩ := k
  obtain ⟨hx, hZ, hby, -, hown, hnm, -, -, ⟨a0, hw⟩, rfl, -⟩ := H
  subst hp hc hs
  intro T w
  obtain ⟨locs, X, F, OO⟩ := w
  obtain ⟨T', h', cA, X', e', E, A, sg⟩ := newP X hx hZ (aty := .byte) (hw _ w1) rfl (g := mkF m pc Ls (.int n :: st)) rfl (hb hby hd) rfl hn hcap hb8 hc' hs'
  have hB : ArI Z .byte (List.replicate n.toNatClampNeg 0) (newA cA .byte n) := ⟨A.2.1, A.2.2, by simp [newA, defaultValue], by simp; omega, fun x hx => by rw [List.eq_of_mem_replicate hx]; rfl⟩
  obtain ⟨t, o, hs, r⟩ := g _ T' ⟨_, X', F, e' ▸ OO.new E A.1 hB⟩
  exact ⟨t, o, sg _ hs, r⟩
theorem s_newarr_bool (H : Ok Z k R Q y b ml rt) {cn' sn' cap : Nat} {n : Int32} (hd : decode b pc = .ok (.newarray .boolean, 2)) (w1 : Jvm.Cond.arrayClass .boolean ∈ tables_1) (hn : ¬ n < 0) (hcap : n.toNatClampNeg ≤ cap) (hb8 : cap * 8 ≤ 536870912) (hc : cn + 1 = cn') (hs : sn + cap = sn') (hc' : cn' ≤ R.cells) (hs' : sn' ≤ R.slots) (hp : pc + 2 = pc')
    (g : ∀ a, Go Z k cn' sn' ((a, ArI Z .boolean (List.replicate n.toNatClampNeg 0)) :: M) pc' Ls (.ref a :: st)) : Go Z k cn sn M pc Ls (.int n :: st) := by
  obtain ⟨p, l, e, R', s, m, args, below, meth, c, Q'⟩ := k
  obtain ⟨hx, hZ, hby, -, hown, hnm, -, -, ⟨a0, hw⟩, rfl, -⟩ := H
  subst hp hc hs
  intro T w
  obtain ⟨locs, X, F, OO⟩ := w
  obtain ⟨T', h', cA, X', e', E, A, sg⟩ := newP X hx hZ (aty := .boolean) (hw _ w1) rfl (g := mkF m pc Ls (.int n :: st)) rfl (hb hby hd) rfl hn hcap hb8 hc' hs'
  have hB : ArI Z .boolean (List.replicate n.toNatClampNeg 0) (newA cA .boolean n) := ⟨A.2.1, A.2.2, by simp [newA, defaultValue], by simp; omega, fun x hx => by rw [List.eq_of_mem_replicate hx]; rfl⟩
  obtain ⟨t, o, hs, r⟩ := g _ T' ⟨_, X', F, e' ▸ OO.new E A.1 hB⟩
  exact ⟨t, o, sg _ hs, r⟩
theorem s_newarr_long (H : Ok Z k R Q y b ml rt) {cn' sn' cap : Nat} {n : Int32} (hd : decode b pc = .ok (.newarray .long, 2)) (w1 : Jvm.Cond.arrayClass .long ∈ tables_1) (hn : ¬ n < 0) (hcap : n.toNatClampNeg ≤ cap) (hb8 : cap * 8 ≤ 536870912) (hc : cn + 1 = cn') (hs : sn + cap = sn') (hc' : cn' ≤ R.cells) (hs' : sn' ≤ R.slots) (hp : pc + 2 = pc')
    (g : ∀ a, Go Z k cn' sn' ((a, ArL Z (List.replicate n.toNatClampNeg 0)) :: M) pc' Ls (.ref a :: st)) : Go Z k cn sn M pc Ls (.int n :: st) := by
  obtain ⟨p, l, e, R', s, m, args, below, meth, c, Q'⟩ := k
  obtain ⟨hx, hZ, hby, -, hown, hnm, -, -, ⟨a0, hw⟩, rfl, -⟩ := H
  subst hp hc hs
  intro T w
  obtain ⟨locs, X, F, OO⟩ := w
  obtain ⟨T', h', cA, X', e', E, A, sg⟩ := newP X hx hZ (aty := .long) (hw _ w1) rfl (g := mkF m pc Ls (.int n :: st)) rfl (hb hby hd) rfl hn hcap hb8 hc' hs'
  have hB : ArL Z (List.replicate n.toNatClampNeg 0) (newA cA .long n) := ⟨A.2.1, A.2.2, by simp [newA, defaultValue], by simp; omega⟩
  obtain ⟨t, o, hs, r⟩ := g _ T' ⟨_, X', F, e' ▸ OO.new E A.1 hB⟩
  exact ⟨t, o, sg _ hs, r⟩
/-! OWN KIT 3: contracts and calls -/
def MQ (Z : State) (rm : Room) (Q : Option Value → Hp → Prop) (U : State) (o : Outcome) (U' : State) : Prop := ∃ v L, o = .returned v ∧ (Fr Z.heap.size L ∧ ∃ M, Q v M ∧ Own Z U'.heap M) ∧ FrameEnd U o U' L rm.cells rm.slots
def Met (Z : State) (y : MethodName) (b : ByteArray) (ml : Nat) (rt : Option FieldType) (rm : Room) (as : List Value) (M : Hp) (Q : Option Value → Hp → Prop) : Prop :=
  ∀ (l : Launch) (h0 : Heap), Own Z h0 M → MetFree l y (head1 [Jvm.Cond.code y b ml rt] rm) (fun a U => a = as.toArray ∧ Z.Warmed39 U.vm ∧ U.heap = h0) (fun _ _ _ _ _ => True) (fun _ U o U' => ∃ v L, o = .returned v ∧ (Fr Z.heap.size L ∧ ∃ M, Q v M ∧ Own Z U'.heap M) ∧ FrameEnd U o U' L rm.cells rm.slots)
theorem met_of {ws : List Jvm.Cond} {as : List Value} {rm : Room} {h0 : Heap} (l : Launch) (hT : Tb Z) (hpl : plainFor y = true) (hef : ∀ m, entryFrame m as.toArray ml = mkF m 0 Ls []) (hO : Own Z h0 M) (body : ∀ k, Ok Z k rm Q y b ml rt → Go Z k 0 0 M 0 Ls []) :
    MetFree l y (head1 (Jvm.Cond.code y b ml rt :: ws) rm) (fun a U => a = as.toArray ∧ Z.Warmed39 U.vm ∧ U.heap = h0) (fun _ _ _ _ _ => True) (fun _ U o U' => ∃ v L, o = .returned v ∧ (Fr Z.heap.size L ∧ ∃ M, Q v M ∧ Own Z U'.heap M) ∧ FrameEnd U o U' L rm.cells rm.slots) := by
  refine MetFree.of_bodySF hpl hisR ?_
  intro p e s m args below meth c s₁ Bd hml0 hP hK
  obtain ⟨rfl, hZ, hh⟩ := hP
  have X0 : Stand p l e rm s m as.toArray below meth c s₁ [] 0 0 := Stand.of_body Bd
  have e0 : s₁.heap = h0 := by rw [← hh, Bd.state]; rfl
  obtain ⟨t, o, hs, r⟩ := body (p, l, e, rm, s, m, as.toArray, below, meth, c, Q) ⟨Bd.exec, hZ, Bd.bytes, hml0, findClass_of_methodNamed Bd.named, (name_of_methodNamed Bd.named Bd.method).1, Bd.returns, Bd.notSynchronized, hT, rfl, rfl⟩ s₁ ⟨[], X0, Fr.nil _, e0 ▸ hO⟩
  exact ⟨t, o, castTop (hef m) hs, r⟩
theorem Met.of {as : List Value} {rm : Room} (hT : Tb Z) (hpl : plainFor y = true) (hef : ∀ m, entryFrame m as.toArray ml = mkF m 0 Ls []) (body : ∀ k, Ok Z k rm Q y b ml rt → Go Z k 0 0 M 0 Ls []) : Met Z y b ml rt rm as M Q := fun l h0 hO => met_of l hT hpl hef hO body
theorem Met.mono {as : List Value} {rm : Room} {Q' : Option Value → Hp → Prop} (h : Met Z y b ml rt rm as M Q) (q : ∀ v M, Q v M → Q' v M) : Met Z y b ml rt rm as M Q' := fun l h0 hO p e ha hc hk s m args below hf happ hP hK => by
  obtain ⟨n, o, h1, h2, h3, v, L, h4, ⟨h5, M', h6, h7⟩, h8⟩ := h l h0 hO p e ha hc hk s m args below hf happ hP hK
  exact ⟨n, o, h1, h2, h3, v, L, h4, ⟨h5, M', q _ _ h6, h7⟩, h8⟩
theorem s_ret (H : Ok Z k R Q y b ml (some ty)) {i : Instr} {w : Value} (hd : decode b pc = .ok (i, 1)) (hn : narrow ty w = w)
    (hi : (i = .ireturn ∧ (ty = .int ∨ ty = .boolean ∨ ty = .byte ∨ ty = .char ∨ ty = .short) ∧ ∃ z, w = .int z) ∨ (i = .lreturn ∧ ty = .long ∧ ∃ z, w = .long z) ∨ (i = .dreturn ∧ ty = .double ∧ ∃ z, w = .double z) ∨ (i = .freturn ∧ ty = .float ∧ ∃ z, w = .float z) ∨ (i = .areturn ∧ ty.isReference = true ∧ w.isRef = true))
    (hc : cn ≤ R.cells) (hs : sn ≤ R.slots) (q : Q (some w) M) : Go Z k cn sn M pc Ls (w :: st) := by
  obtain ⟨p, l, e, R', s, m, args, below, meth, c, Q'⟩ := k
  obtain ⟨hx, hZ, hby, -, -, -, hret, hlk, -, rfl, rfl⟩ := H
  intro T w'
  obtain ⟨locs, X, F, O⟩ := w'
  obtain ⟨fs, hr, hrun, hended, hW, hsame⟩ := X.leave (v := some w) (fun h => by rw [hret] at h; cases h) hlk
  exact ⟨_, _, retOut X hx hret hn hi (hb hby hd) hr, hrun, hended, _, _, rfl, ⟨F, M, q, O⟩, ⟨_, rfl⟩, hW, hsame.mono hc hs⟩
theorem s_iret (H : Ok Z k R Q y b ml (some ty)) {z : Int32} (hd : decode b pc = .ok (.ireturn, 1)) (hn : narrow ty (.int z) = .int z) (ht : ty = .int ∨ ty = .boolean ∨ ty = .byte ∨ ty = .char ∨ ty = .short) (hc : cn ≤ R.cells) (hs : sn ≤ R.slots) (q : Q (some (.int z)) M) : Go Z k cn sn M pc Ls (.int z :: st) := s_ret H hd hn (Or.inl ⟨rfl, ht, z, rfl⟩) hc hs q
theorem s_lret (H : Ok Z k R Q y b ml (some .long)) {z : Int64} (hd : decode b pc = .ok (.lreturn, 1)) (hc : cn ≤ R.cells) (hs : sn ≤ R.slots) (q : Q (some (.long z)) M) : Go Z k cn sn M pc Ls (.long z :: st) := s_ret H hd rfl (Or.inr (Or.inl ⟨rfl, rfl, z, rfl⟩)) hc hs q
theorem s_aret (H : Ok Z k R Q y b ml (some ty)) {a : Addr} (hd : decode b pc = .ok (.areturn, 1)) (hn : narrow ty (.ref a) = .ref a) (ht : ty.isReference = true) (hc : cn ≤ R.cells) (hs : sn ≤ R.slots) (q : Q (some (.ref a)) M) : Go Z k cn sn M pc Ls (.ref a :: st) := s_ret H hd hn (Or.inr (Or.inr (Or.inr (Or.inr ⟨rfl, ht, rfl⟩)))) hc hs q
theorem s_vret (H : Ok Z k R Q y b ml none) (hd : decode b pc = .ok (.return_, 1)) (hc : cn ≤ R.cells) (hs : sn ≤ R.slots) (q : Q none M) : Go Z k cn sn M pc Ls [] := by
  obtain ⟨p, l, e, R', s, m, args, below, meth, c, Q'⟩ := k
  obtain ⟨hx, hZ, hby, -, -, -, hret, hlk, -, rfl, rfl⟩ := H
  intro T w'
  obtain ⟨locs, X, F, O⟩ := w'
  obtain ⟨fs, hr, hrun, hended, hW, hsame⟩ := X.leave (v := none) (fun _ => rfl) hlk
  exact ⟨_, _, X.returnOut hx hret (hb hby hd) hr, hrun, hended, _, _, rfl, ⟨F, M, q, O⟩, ⟨_, rfl⟩, hW, hsame.mono hc hs⟩
theorem s_objinit (H : Ok Z k R Q y b ml rt) {idx : Nat} {a : Addr} (hd : decode b pc = .ok (.invokespecial idx, 3)) (w1 : Jvm.Cond.methodLink y.cls idx Lib.objectInit ∈ tables_1) (w2 : Jvm.Cond.instanceMethod Lib.objectInit ∈ tables_1) (w3 : Jvm.Cond.code Lib.objectInit ⟨#[0xb1]⟩ 1 none ∈ tables_1) (hsz : Ls.size = ml) (hf : 1 ≤ R.frames) (hl : (st.map fun v => v.category).sum + 12 ≤ R.locals) (hp : pc + 3 = pc') (g : Go Z k cn sn M pc' Ls st) : Go Z k cn sn M pc Ls (.ref a :: st) := by
  obtain ⟨p, l, e, R', s, m, args, below, meth, c, Q'⟩ := k
  obtain ⟨hx, hZ, hby, hml, hown, hnm, -, -, ⟨a0, hw⟩, rfl, -⟩ := H
  subst hp
  intro T w
  obtain ⟨locs, X, F, OO⟩ := w
  obtain ⟨T', X', e', sg⟩ := initO X hx hZ hown (hw _ w1) (hw _ w2) (hw _ w3) rfl (g := mkF m pc Ls (.ref a :: st)) rfl (by rw [hml]; exact hsz) rfl (hb hby hd) hf (W := (st.map fun v => v.category).sum) (by show 2 * 0 + _ ≤ _; omega) hl
  obtain ⟨t, o, hs, r⟩ := g T' ⟨_, X', F, e' ▸ OO⟩
  exact ⟨t, o, sg _ hs, r⟩
theorem s_static (H : Ok Z k R Q y b ml rt) {idx cn' sn' : Nat} {y' : MethodName} {b' : ByteArray} {ml' : Nat} {rt' : Option FieldType} {rm : Room} {as rest : List Value} {Q' : Option Value → Hp → Prop} {sig : MethodDescriptor}
    (hM : Met Z y' b' ml' rt' rm as M Q') (hd : decode b pc = .ok (.invokestatic idx, 3)) (w1 : Jvm.Cond.methodLink y.cls idx y' ∈ tables_1) (w2 : Jvm.Cond.static y' ∈ tables_1) (w3 : Jvm.Cond.initialized y'.cls ∈ tables_1) (w4 : Jvm.Cond.code y' b' ml' rt' ∈ tables_1) (hy : y'.cls ≠ "java/lang/invoke/MethodHandle" ∧ y'.cls ≠ "java/lang/invoke/VarHandle")
    (hsig : parseMethodDescriptor y'.desc = some sig) (hlen : as.length = sig.parameters.length) (hst : st = as.reverse ++ rest) (hsz : Ls.size = ml) (hf : rm.frames + 1 ≤ R.frames) (hl : (rest.map fun v => v.category).sum + (ml' + 11) + rm.locals ≤ R.locals) (hc : cn + rm.cells = cn') (hs : sn + rm.slots = sn') (hc' : cn' ≤ R.cells) (hs' : sn' ≤ R.slots) (hp : pc + 3 = pc')
    (g : ∀ v M', Q' v M' → Go Z k cn' sn' M' pc' Ls (v.toList ++ rest)) : Go Z k cn sn M pc Ls st := by
  obtain ⟨p, l, e, R', s, m, args, below, meth, c, Q''⟩ := k
  obtain ⟨hx, hZ, hby, hml, hown, hnm, -, -, ⟨a0, hw⟩, rfl, -⟩ := H
  subst hp hc hs hst
  intro T w
  obtain ⟨locs, X, F, OO⟩ := w
  obtain ⟨v, _, ⟨T', L', k', n'⟩, -, X', ⟨Lc, ⟨hF, M', hQ, hO⟩, q1, q2, q3⟩, sg⟩ := Jvm.LawKit.callS X hx (y := y') hown (mvT hZ (hw _ w1)) (mvT hZ (hw _ w2)) (mvT hZ (hw _ w3)) (mvT hZ (hw _ w4)) hy (backOf (W := (rest.map fun v => v.category).sum) (Q := fun v h L => Fr Z.heap.size L ∧ ∃ M', Q' v M' ∧ Own Z h M') (hM l _ OO) hZ (hw _ w4) (hw _ w3) hf hl) (g := mkF m pc Ls (as.reverse ++ rest)) rfl (by rw [hml]; exact hsz) (argsL := as) (rest := rest) (lenOf (ps := sig.parameters) (r := sig.returnType) hsig hlen) rfl (by show 2 * 0 + _ ≤ _; omega) (hb hby hd) (fun _ _ => ⟨rfl, rfl, hc', hs'⟩)
  dsimp only [Pt.U, Pt.locs, Pt.cells, Pt.slots] at X' q1 q2 q3 sg hO
  subst q1 q2 q3
  obtain ⟨t, o, hs, r⟩ := g v M' hQ T' ⟨_, X', Fr.app F hF, hO⟩
  exact ⟨t, o, sg _ hs, r⟩
theorem s_init (H : Ok Z k R Q y b ml rt) {idx cn' sn' : Nat} {a : Addr} {y' : MethodName} {b' : ByteArray} {ml' : Nat} {rm : Room} {as rest : List Value} {Q' : Option Value → Hp → Prop} {sig : MethodDescriptor}
    (hM : Met Z y' b' ml' none rm (.ref a :: as) M Q') (hd : decode b pc = .ok (.invokespecial idx, 3)) (hy1 : y'.name = "<init>") (w1 : Jvm.Cond.methodLink y.cls idx y' ∈ tables_1) (w2 : Jvm.Cond.instanceMethod y' ∈ tables_1) (w3 : Jvm.Cond.initialized y'.cls ∈ tables_1) (w4 : Jvm.Cond.code y' b' ml' none ∈ tables_1) (hy : y'.cls ≠ "java/lang/invoke/MethodHandle" ∧ y'.cls ≠ "java/lang/invoke/VarHandle")
    (hsig : parseMethodDescriptor y'.desc = some sig) (hlen : as.length = sig.parameters.length) (hst : st = as.reverse ++ .ref a :: rest) (hsz : Ls.size = ml) (hf : rm.frames + 1 ≤ R.frames) (hl : (rest.map fun v => v.category).sum + (ml' + 11) + rm.locals ≤ R.locals) (hc : cn + rm.cells = cn') (hs : sn + rm.slots = sn') (hc' : cn' ≤ R.cells) (hs' : sn' ≤ R.slots) (hp : pc + 3 = pc')
    (g : ∀ v M', Q' v M' → Go Z k cn' sn' M' pc' Ls (v.toList ++ rest)) : Go Z k cn sn M pc Ls st := by
  obtain ⟨p, l, e, R', s, m, args, below, meth, c, Q''⟩ := k
  obtain ⟨hx, hZ, hby, hml, hown, hnm, -, -, ⟨a0, hw⟩, rfl, -⟩ := H
  subst hp hc hs hst
  intro T w
  obtain ⟨locs, X, F, OO⟩ := w
  obtain ⟨v, _, ⟨T', L', k', n'⟩, -, X', ⟨Lc, ⟨hF, M', hQ, hO⟩, q1, q2, q3⟩, sg⟩ := X.specialBack hx (y := y') hy1 hown (mvT hZ (hw _ w1)) (mvT hZ (hw _ w2)) (mvT hZ (hw _ w4)) hy (backOf (W := (rest.map fun v => v.category).sum) (Q := fun v h L => Fr Z.heap.size L ∧ ∃ M', Q' v M' ∧ Own Z h M') (hM l _ OO) hZ (hw _ w4) (hw _ w3) hf hl) (g := mkF m pc Ls (as.reverse ++ .ref a :: rest)) rfl (by rw [hml]; exact hsz) (Steps.refl _) (a := a) (argsL := as) (rest := rest) (lenOf (ps := sig.parameters) (r := sig.returnType) hsig hlen) rfl (by show 2 * 0 + _ ≤ _; omega) (hb hby hd) (fun _ _ => ⟨rfl, rfl, hc', hs'⟩)
  dsimp only [Pt.U, Pt.locs, Pt.cells, Pt.slots] at X' q1 q2 q3 sg hO
  subst q1 q2 q3
  obtain ⟨t, o, hs, r⟩ := g v M' hQ T' ⟨_, X', Fr.app F hF, hO⟩
  exact ⟨t, o, sg.trans hs, r⟩
theorem s_virtual (H : Ok Z k R Q y b ml rt) {i idx cn' sn' : Nat} {a : Addr} {C : String} {fs : List Fd} {y' : MethodName} {b' : ByteArray} {ml' : Nat} {rt' : Option FieldType} {rm : Room} {as rest : List Value} {Q' : Option Value → Hp → Prop} {sig : MethodDescriptor}
    (hM : Met Z y' b' ml' rt' rm (.ref a :: as) M Q') (hd : decode b pc = .ok (.invokevirtual idx, 3)) (hi : M[i]? = some (a, Obj Z C fs)) (w1 : Jvm.Cond.methodLink y.cls idx y' ∈ tables_1) (w2 : Jvm.Cond.declares y' ∈ tables_1) (w5 : Jvm.Cond.selects C y' y' ∈ tables_1) (w6 : Jvm.Cond.instanceMethod y' ∈ tables_1) (w3 : Jvm.Cond.initialized y'.cls ∈ tables_1) (w4 : Jvm.Cond.code y' b' ml' rt' ∈ tables_1) (hy : y'.cls ≠ "java/lang/invoke/MethodHandle" ∧ y'.cls ≠ "java/lang/invoke/VarHandle")
    (hsig : parseMethodDescriptor y'.desc = some sig) (hlen : as.length = sig.parameters.length) (hst : st = as.reverse ++ .ref a :: rest) (hsz : Ls.size = ml) (hf : rm.frames + 1 ≤ R.frames) (hl : (rest.map fun v => v.category).sum + (ml' + 11) + rm.locals ≤ R.locals) (hc : cn + rm.cells = cn') (hs : sn + rm.slots = sn') (hc' : cn' ≤ R.cells) (hs' : sn' ≤ R.slots) (hp : pc + 3 = pc')
    (g : ∀ v M', Q' v M' → Go Z k cn' sn' M' pc' Ls (v.toList ++ rest)) : Go Z k cn sn M pc Ls st := by
  obtain ⟨p, l, e, R', s, m, args, below, meth, c, Q''⟩ := k
  obtain ⟨hx, hZ, hby, hml, hown, hnm, -, -, ⟨a0, hw⟩, rfl, -⟩ := H
  subst hp hc hs hst
  intro T w
  obtain ⟨locs, X, F, OO⟩ := w
  obtain ⟨-, cl, c1, c2⟩ := OO.2.1 i _ hi
  obtain ⟨cq, kq, qa, qb, qc⟩ := isOf hZ rfl (c2.1 _ _ c1).1
  obtain ⟨v, _, ⟨T', L', k', n'⟩, -, X', ⟨Lc, ⟨hF, M', hQ, hO⟩, q1, q2, q3⟩, sg⟩ := X.virtualBack hx (y := y') (z := y') hown (mvT hZ (hw _ w1)) (mvT hZ (hw _ w2)) (notFace_of_selects (args := #[]) (mvT hZ (hw _ w5))) (mvT hZ (hw _ w5)) (mvT hZ (hw _ w6)) hy (backOf (W := (rest.map fun v => v.category).sum) (Q := fun v h L => Fr Z.heap.size L ∧ ∃ M', Q' v M' ∧ Own Z h M') (hM l _ OO) hZ (hw _ w4) (hw _ w3) hf hl) qa qc (g := mkF m pc Ls (as.reverse ++ .ref a :: rest)) rfl (by rw [hml]; exact hsz) (Steps.refl _) (argsL := as) (rest := rest) (lenOf (ps := sig.parameters) (r := sig.returnType) hsig hlen) rfl (by show 2 * 0 + _ ≤ _; omega) (hb hby hd) (fun _ _ => ⟨rfl, rfl, hc', hs'⟩)
  dsimp only [Pt.U, Pt.locs, Pt.cells, Pt.slots] at X' q1 q2 q3 sg hO
  subst q1 q2 q3
  obtain ⟨t, o, hs, r⟩ := g v M' hQ T' ⟨_, X', Fr.app F hF, hO⟩
  exact ⟨t, o, sg.trans hs, r⟩
theorem s_priv (H : Ok Z k R Q y b ml rt) {i idx cn' sn' : Nat} {a : Addr} {C : String} {fs : List Fd} {y' y0 : MethodName} {b' : ByteArray} {ml' : Nat} {rt' : Option FieldType} {rm : Room} {as rest : List Value} {Q' : Option Value → Hp → Prop} {sig : MethodDescriptor}
    (hM : Met Z y' b' ml' rt' rm (.ref a :: as) M Q') (hd : decode b pc = .ok (.invokevirtual idx, 3)) (hi : M[i]? = some (a, Obj Z C fs)) (w1 : Jvm.Cond.methodLink y.cls idx y' ∈ tables_1) (w2 : Jvm.Cond.privateMethod y' ∈ tables_1) (w5 : Jvm.Cond.selects y'.cls y0 y0 ∈ tables_1) (h0 : y0.cls = y'.cls) (w6 : Jvm.Cond.instanceMethod y' ∈ tables_1) (w3 : Jvm.Cond.initialized y'.cls ∈ tables_1) (w4 : Jvm.Cond.code y' b' ml' rt' ∈ tables_1) (hy : y'.cls ≠ "java/lang/invoke/MethodHandle" ∧ y'.cls ≠ "java/lang/invoke/VarHandle")
    (hsig : parseMethodDescriptor y'.desc = some sig) (hlen : as.length = sig.parameters.length) (hst : st = as.reverse ++ .ref a :: rest) (hsz : Ls.size = ml) (hf : rm.frames + 1 ≤ R.frames) (hl : (rest.map fun v => v.category).sum + (ml' + 11) + rm.locals ≤ R.locals) (hc : cn + rm.cells = cn') (hs : sn + rm.slots = sn') (hc' : cn' ≤ R.cells) (hs' : sn' ≤ R.slots) (hp : pc + 3 = pc')
    (g : ∀ v M', Q' v M' → Go Z k cn' sn' M' pc' Ls (v.toList ++ rest)) : Go Z k cn sn M pc Ls st := by
  obtain ⟨p, l, e, R', s, m, args, below, meth, c, Q''⟩ := k
  obtain ⟨hx, hZ, hby, hml, hown, hnm, -, -, ⟨a0, hw⟩, rfl, -⟩ := H
  subst hp hc hs hst
  intro T w
  obtain ⟨locs, X, F, OO⟩ := w
  obtain ⟨-, cl, c1, c2⟩ := OO.2.1 i _ hi
  obtain ⟨cl', d1, d2⟩ := (c2.1 _ _ c1).1.cell
  have hpriv : s.PrivateAt y' := Cond.privateMethod_at (mvP hZ (hw _ w2) (args := #[]))
  obtain ⟨mk, mM, hn, hm, hst, hab⟩ := Cond.instanceMethod_spec (mvT (args := #[]) hZ (hw _ w6))
  obtain ⟨c3, r3, m3, -, -, n3, -, kP, hk, hkI⟩ := Cond.selects_spec (mvT (args := #[]) hZ (hw _ w5))
  have e3 : m3.cls = mk.cls := by
    have u1 := findClass_of_methodNamed n3
    have u2 := findClass_of_methodNamed hn
    rw [h0, u2] at u1; exact (Option.some.inj u1).symm
  rw [e3] at hk
  obtain ⟨mM', cM, hm2, -, -, -, -, -, -, hsg⟩ := Cond.code_spec hn (mvT (args := #[]) hZ (hw _ w4))
  cases hm.symm.trans hm2
  obtain ⟨vm₁, X₁, st₁⟩ := X.invokevirtual hx hown (mvT hZ (hw _ w1)) hn hm hst hk hkI hy (a := a) d1 d2 (selectMethod_private hm (hpriv mk _ hn hm)) hm hab hk hkI (g := mkF m pc Ls (as.reverse ++ .ref a :: rest)) rfl (argsL := as) (rest := rest) (lenOf (ps := sig.parameters) (r := sig.returnType) hsig hlen _ hsg) rfl (hb hby hd)
  have hK := backOf (l := l) (p := p) (e := e) (below := below) (R := R') (args := args) (len := 3) (W := (rest.map fun v => v.category).sum) (Q := fun v h L => Fr Z.heap.size L ∧ ∃ M', Q' v M' ∧ Own Z h M') (hM l _ OO) hZ (hw _ w4) (hw _ w3) hf hl
  obtain ⟨v, ⟨T', L', k', n'⟩, X', ⟨Lc, ⟨hF, M', hQ, hO⟩, q1, q2, q3⟩, sg⟩ := hK m meth c ⟨T.setVm vm₁, locs, cn, sn⟩ (mkF m pc Ls rest) (.invokevirtual idx) mk (.ref a :: as).toArray X₁ rfl (by rw [hml]; exact hsz) (hb hby hd) (by show 2 * 0 + (rest.map fun v => v.category).sum ≤ _; omega) (X₁.named hn) ⟨rfl, rfl, hc', hs'⟩
  dsimp only [Pt.U, Pt.locs, Pt.cells, Pt.slots] at X' q1 q2 q3 sg hO
  subst q1 q2 q3
  obtain ⟨t, o, hs, r⟩ := g v M' hQ T' ⟨_, X', Fr.app F hF, hO⟩
  exact ⟨t, o, st₁ _ (fun acts => by rw [doInvoke_state]; exact sg.trans hs), r⟩
end Kit
theorem own_nat {m : Nat} (h : m < 2147483648) : m.toInt32.toNatClampNeg = m ∧ ¬ m.toInt32 < 0 ∧ m.toInt32.toInt = m := by
  have e : m.toInt32.toInt = m := Int32.toInt_ofNat_small (by omega)
  refine ⟨?_, ?_, e⟩
  · show m.toInt32.toInt.toNat = m
    rw [e]; rfl
  · rw [Int32.lt_iff_toInt_lt, e, show (0 : Int32).toInt = 0 from by decide]; omega
theorem own_lt {m n : Nat} (h : m < 2147483648) (h' : n < 2147483648) : m.toInt32 < n.toInt32 ↔ m < n := by rw [Int32.lt_iff_toInt_lt, (own_nat h).2.2, (own_nat h').2.2]; omega
theorem own_le {m n : Nat} (h : m < 2147483648) (h' : n < 2147483648) : m.toInt32 ≤ n.toInt32 ↔ m ≤ n := by rw [Int32.le_iff_toInt_le, (own_nat h).2.2, (own_nat h').2.2]; omega
theorem own_succ (m : Nat) : m.toInt32 + 1 = (m + 1).toInt32 := by
  show Int32.ofNat m + Int32.ofNat 1 = Int32.ofNat (m + 1)
  rw [← Int32.ofNat_add]
theorem allN {α : Type} {P : α → Prop} : ∀ x ∈ ([] : List α), P x := fun _ q => nomatch q
theorem allC {α : Type} {P : α → Prop} {z : α} {L : List α} (q : P z) (r : ∀ x ∈ L, P x) : ∀ x ∈ z :: L, P x := fun x h => (List.mem_cons.mp h).elim (fun u => u ▸ q) (r x)
/-! OWN KIT 4: System.arraycopy -/
theorem own_us {α : Type} {f : α → Value} {vs : List α} {d : α} {s n : Nat} (h : s + n ≤ vs.length) : ((List.range n).map fun i => (vs.map f).getD (s + i) (f d)) = (((vs.drop s).take n).map f) := by
  apply List.ext_getElem?
  intro i
  simp only [List.getElem?_map, List.getElem?_take, List.getElem?_drop]
  rcases Nat.lt_or_ge i n with lt | ge
  · rw [List.getElem?_range lt, if_pos lt, List.getElem?_eq_getElem (by omega)]
    simp [List.getD_eq_getElem?_getD, List.getElem?_eq_getElem (show s + i < vs.length from by omega)]
  · rw [List.getElem?_eq_none (by simpa using ge), if_neg (by omega)]; rfl
theorem own_back {α : Type} {f : α → Value} {d : α} {vs : List α} {c : Cell} {n : Int32} (hs : c.slots.size = n.toNatClampNeg) (hn : n.toNatClampNeg = vs.length) (hH : Has c (vs.map f) (f d)) : c.slots = (vs.map f).toArray := by
  apply Array.ext_getElem?
  intro i
  rcases Nat.lt_or_ge i c.slots.size with lt | ge
  · rw [hH i lt]
    have : i < vs.length := by omega
    simp [List.getD_eq_getElem?_getD, List.getElem?_eq_getElem this]
  · rw [Array.getElem?_eq_none ge]
    symm
    apply Array.getElem?_eq_none
    simp; omega
theorem arv_L {Z : State} {vs : List Int64} {c : Cell} {h : Heap} {a : Addr} (B : ArL Z vs c) (hc : h[a]? = some c) : Arv Z h a c.cls .long vs.length.toInt32 (vs.map Value.long) (Value.long 0) := by
  have hl : vs.length < 2147483648 := B.2.2.2
  refine ⟨c, B.arr hc, rfl, by rw [B.size, (own_nat hl).1], (own_nat hl).2.1, fun i hi => ?_, fun i hi => ?_⟩
  · rw [B.size] at hi
    rw [B.2.2.1]
    simp [List.getD_eq_getElem?_getD, List.getElem?_eq_getElem hi]
  · rw [B.size] at hi
    rw [List.getD_eq_getElem?_getD, List.getElem?_map, List.getElem?_eq_getElem hi]
    rfl
theorem s_acopy_L {Z : State} {k : Cx} {R : Room} {Q : Option Value → Hp → Prop} {y : MethodName} {b : ByteArray} {ml : Nat} {rt : Option FieldType} {cn sn : Nat} {M : Hp} {pc pc' : Nat} {Ls : Array Slot} {st : List Value} (H : Ok Z k R Q y b ml rt) {i j idx : Nat} {a a' : Addr} {vs vd : List Int64} {sp dp nn : Int32} (s d n : Nat) (hd : decode b pc = .ok (.invokestatic idx, 3)) (w1 : Jvm.Cond.methodLink y.cls idx Jvm.Stand.acN ∈ tables_1) (w2 : Jvm.Cond.native Jvm.Stand.acN ∈ tables_1) (w3 : Jvm.Cond.static Jvm.Stand.acN ∈ tables_1) (w4 : Jvm.Cond.initialized "java/lang/System" ∈ tables_1)
    (hi : M[i]? = some (a, ArL Z vs)) (hj : M[j]? = some (a', ArL Z vd)) (es : sp = s.toInt32) (ed : dp = d.toInt32) (en : nn = n.toInt32) (h1 : s + n ≤ vs.length) (h2 : d + n ≤ vd.length) (hsz : Ls.size = ml) (hf : 1 ≤ R.frames) (hlo : (st.map fun v => v.category).sum + (nativeFrameWords "java/lang/System" "arraycopy" 5 + 11) ≤ R.locals) (hp : pc + 3 = pc')
    (g : Go Z k cn sn (M.set j (a', ArL Z (vd.take d ++ (vs.drop s).take n ++ vd.drop (d + n)))) pc' Ls st) : Go Z k cn sn M pc Ls (.int nn :: .int dp :: .ref a' :: .int sp :: .ref a :: st) := by
  obtain ⟨p, l, e, R', s', m, args, below, meth, c, Q'⟩ := k
  obtain ⟨hx, hZ, hby, hml, hown, -, -, -, ⟨a0, hw⟩, rfl, -⟩ := H
  subst hp es ed en
  intro T w
  obtain ⟨locs, X, F, O⟩ := w
  obtain ⟨q0, cs, q1, q2⟩ := O.2.1 i _ hi
  obtain ⟨p0, cd, p1, p2⟩ := O.2.1 j _ hj
  have ls : vs.length < 2147483648 := q2.2.2.2
  have ld : vd.length < 2147483648 := p2.2.2.2
  obtain ⟨T', h', L, X', e', F', K, B, sg⟩ := cpA X hx hZ hown (hw _ w1) (hw _ w2) (hw _ w3) (hw _ w4) rfl (arv_L q2 q1) (arv_L p2 p1) (Or.inl ⟨rfl, rfl⟩) (sp := s.toInt32) (dp := d.toInt32) (nn := n.toInt32) (own_nat (by omega)).2.1 (own_nat (by omega)).2.1 (own_nat (by omega)).2.1 (by rw [(own_nat (by omega)).1, (own_nat (by omega)).1, (own_nat ls).1]; exact h1) (by rw [(own_nat (by omega)).1, (own_nat (by omega)).1, (own_nat ld).1]; exact h2) rfl (by rw [(own_nat (by omega)).1, (own_nat (by omega)).1, List.length_map]; exact h2) F p0 (g := mkF m pc Ls (.int n.toInt32 :: .int d.toInt32 :: .ref a' :: .int s.toInt32 :: .ref a :: st)) rfl (by rw [hml]; exact hsz) rfl (hb hby hd) hf (W := (st.map fun v => v.category).sum) (by show 2 * 0 + _ ≤ _; omega) hlo
  rw [(own_nat (show n < 2147483648 by omega)).1, (own_nat (show d < 2147483648 by omega)).1, (own_nat (show s < 2147483648 by omega)).1, own_us h1] at B
  have eL : (vd.map Value.long).take d ++ ((vs.drop s).take n).map Value.long ++ (vd.map Value.long).drop (d + n) = (vd.take d ++ (vs.drop s).take n ++ vd.drop (d + n)).map Value.long := by simp [List.map_append, List.map_take, List.map_drop]
  rw [eL] at B
  have len : (vd.take d ++ (vs.drop s).take n ++ vd.drop (d + n)).length = vd.length := by simp; omega
  obtain ⟨c', A', k1, k2, k3, k4, k5⟩ := B
  have hc' : ArL Z (vd.take d ++ (vs.drop s).take n ++ vd.drop (d + n)) c' := by
    refine ⟨A'.2.1, A'.2.2, own_back k2 (by rw [(own_nat ld).1, len]) k4, by rw [len]; exact ld⟩
  obtain ⟨t, o, hs, r⟩ := g T' ⟨_, X', F', e' ▸ O.ch hj K.1 (fun x c hx ne => K.2.1 x c hx (by simpa using ne)) ⟨c', A'.1, hc'⟩⟩
  exact ⟨t, o, sg _ hs, r⟩
theorem arv_I {Z : State} {ty : FieldType} {vs : List Int32} {c : Cell} {h : Heap} {a : Addr} (B : ArI Z ty vs c) (hc : h[a]? = some c) : Arv Z h a c.cls ty vs.length.toInt32 (vs.map Value.int) (Value.int 0) := by
  have hl : vs.length < 2147483648 := B.2.2.2.1
  refine ⟨c, B.arr hc, rfl, by rw [B.size, (own_nat hl).1], (own_nat hl).2.1, fun i hi => ?_, fun i hi => ?_⟩
  · rw [B.size] at hi
    rw [B.2.2.1]
    simp [List.getD_eq_getElem?_getD, List.getElem?_eq_getElem hi]
  · rw [B.size] at hi
    rw [List.getD_eq_getElem?_getD, List.getElem?_map, List.getElem?_eq_getElem hi]
    exact B.2.2.2.2 _ (List.getElem_mem hi)
theorem s_acopy_I {Z : State} {k : Cx} {R : Room} {Q : Option Value → Hp → Prop} {y : MethodName} {b : ByteArray} {ml : Nat} {rt : Option FieldType} {cn sn : Nat} {M : Hp} {pc pc' : Nat} {Ls : Array Slot} {st : List Value} (H : Ok Z k R Q y b ml rt) {ty : FieldType} {i j idx : Nat} {a a' : Addr} {vs vd : List Int32} {sp dp nn : Int32} (s d n : Nat) (hd : decode b pc = .ok (.invokestatic idx, 3)) (w1 : Jvm.Cond.methodLink y.cls idx Jvm.Stand.acN ∈ tables_1) (w2 : Jvm.Cond.native Jvm.Stand.acN ∈ tables_1) (w3 : Jvm.Cond.static Jvm.Stand.acN ∈ tables_1) (w4 : Jvm.Cond.initialized "java/lang/System" ∈ tables_1)
    (hi : M[i]? = some (a, ArI Z ty vs)) (hj : M[j]? = some (a', ArI Z ty vd)) (hrk : refKind ty = false) (es : sp = s.toInt32) (ed : dp = d.toInt32) (en : nn = n.toInt32) (h1 : s + n ≤ vs.length) (h2 : d + n ≤ vd.length) (hsz : Ls.size = ml) (hf : 1 ≤ R.frames) (hlo : (st.map fun v => v.category).sum + (nativeFrameWords "java/lang/System" "arraycopy" 5 + 11) ≤ R.locals) (hp : pc + 3 = pc')
    (g : Go Z k cn sn (M.set j (a', ArI Z ty (vd.take d ++ (vs.drop s).take n ++ vd.drop (d + n)))) pc' Ls st) : Go Z k cn sn M pc Ls (.int nn :: .int dp :: .ref a' :: .int sp :: .ref a :: st) := by
  obtain ⟨p, l, e, R', s', m, args, below, meth, c, Q'⟩ := k
  obtain ⟨hx, hZ, hby, hml, hown, -, -, -, ⟨a0, hw⟩, rfl, -⟩ := H
  subst hp es ed en
  intro T w
  obtain ⟨locs, X, F, O⟩ := w
  obtain ⟨q0, cs, q1, q2⟩ := O.2.1 i _ hi
  obtain ⟨p0, cd, p1, p2⟩ := O.2.1 j _ hj
  have ls : vs.length < 2147483648 := q2.2.2.2.1
  have ld : vd.length < 2147483648 := p2.2.2.2.1
  obtain ⟨T', h', L, X', e', F', K, B, sg⟩ := cpA X hx hZ hown (hw _ w1) (hw _ w2) (hw _ w3) (hw _ w4) rfl (arv_I q2 q1) (arv_I p2 p1) (Or.inl ⟨rfl, hrk⟩) (sp := s.toInt32) (dp := d.toInt32) (nn := n.toInt32) (own_nat (by omega)).2.1 (own_nat (by omega)).2.1 (own_nat (by omega)).2.1 (by rw [(own_nat (by omega)).1, (own_nat (by omega)).1, (own_nat ls).1]; exact h1) (by rw [(own_nat (by omega)).1, (own_nat (by omega)).1, (own_nat ld).1]; exact h2) rfl (by rw [(own_nat (by omega)).1, (own_nat (by omega)).1, List.length_map]; exact h2) F p0 (g := mkF m pc Ls (.int n.toInt32 :: .int d.toInt32 :: .ref a' :: .int s.toInt32 :: .ref a :: st)) rfl (by rw [hml]; exact hsz) rfl (hb hby hd) hf (W := (st.map fun v => v.category).sum) (by show 2 * 0 + _ ≤ _; omega) hlo
  rw [(own_nat (show n < 2147483648 by omega)).1, (own_nat (show d < 2147483648 by omega)).1, (own_nat (show s < 2147483648 by omega)).1, own_us h1] at B
  have eL : (vd.map Value.int).take d ++ ((vs.drop s).take n).map Value.int ++ (vd.map Value.int).drop (d + n) = (vd.take d ++ (vs.drop s).take n ++ vd.drop (d + n)).map Value.int := by simp [List.map_append, List.map_take, List.map_drop]
  rw [eL] at B
  have len : (vd.take d ++ (vs.drop s).take n ++ vd.drop (d + n)).length = vd.length := by simp; omega
  obtain ⟨c', A', k1, k2, k3, k4, k5⟩ := B
  have hc' : ArI Z ty (vd.take d ++ (vs.drop s).take n ++ vd.drop (d + n)) c' := by
    refine ⟨A'.2.1, A'.2.2, own_back k2 (by rw [(own_nat ld).1, len]) k4, by rw [len]; exact ld, fun x hx => ?_⟩
    simp only [List.mem_append] at hx
    rcases hx with (hx | hx) | hx
    · exact p2.2.2.2.2 x (List.mem_of_mem_take hx)
    · exact q2.2.2.2.2 x (List.mem_of_mem_drop (List.mem_of_mem_take hx))
    · exact p2.2.2.2.2 x (List.mem_of_mem_drop hx)
  obtain ⟨t, o, hs, r⟩ := g T' ⟨_, X', F', e' ▸ O.ch hj K.1 (fun x c hx ne => K.2.1 x c hx (by simpa using ne)) ⟨c', A'.1, hc'⟩⟩
  exact ⟨t, o, sg _ hs, r⟩
theorem s_staticN {Z : State} {k : Cx} {R : Room} {Q : Option Value → Hp → Prop} {y : MethodName} {b : ByteArray} {ml : Nat} {rt : Option FieldType} {cn sn : Nat} {M : Hp} {pc pc' : Nat} {Ls : Array Slot} {st : List Value} (H : Ok Z k R Q y b ml rt) {idx cn' sn' : Nat} {host : String} {y' : MethodName} {b' : ByteArray} {ml' : Nat} {rt' : Option FieldType} {rm : Room} {as rest : List Value} {Q' : Option Value → Hp → Prop} {sig : MethodDescriptor}
    (hM : Met Z y' b' ml' rt' rm as M Q') (hd : decode b pc = .ok (.invokestatic idx, 3)) (w1 : Jvm.Cond.methodLinkNest y.cls idx y' host ∈ tables_1) (w2 : Jvm.Cond.static y' ∈ tables_1) (w3 : Jvm.Cond.initialized y'.cls ∈ tables_1) (w4 : Jvm.Cond.code y' b' ml' rt' ∈ tables_1) (hy : y'.cls ≠ "java/lang/invoke/MethodHandle" ∧ y'.cls ≠ "java/lang/invoke/VarHandle")
    (hsig : parseMethodDescriptor y'.desc = some sig) (hlen : as.length = sig.parameters.length) (hst : st = as.reverse ++ rest) (hsz : Ls.size = ml) (hf : rm.frames + 1 ≤ R.frames) (hl : (rest.map fun v => v.category).sum + (ml' + 11) + rm.locals ≤ R.locals) (hc : cn + rm.cells = cn') (hs : sn + rm.slots = sn') (hc' : cn' ≤ R.cells) (hs' : sn' ≤ R.slots) (hp : pc + 3 = pc')
    (g : ∀ v M', Q' v M' → Go Z k cn' sn' M' pc' Ls (v.toList ++ rest)) : Go Z k cn sn M pc Ls st := by
  obtain ⟨p, l, e, R', s, m, args, below, meth, c, Q''⟩ := k
  obtain ⟨hx, hZ, hby, hml, hown, hnm, -, -, ⟨a0, hw⟩, rfl, -⟩ := H
  subst hp hc hs hst
  intro T w
  obtain ⟨locs, X, F, OO⟩ := w
  obtain ⟨v, _, ⟨T', L', k', n'⟩, -, X', ⟨Lc, ⟨hF, M', hQ, hO⟩, q1, q2, q3⟩, sg⟩ := callSN X hx (y := y') hown ((Jvm.Cond.methodLinkNest_wide hZ (hw _ w1) :)) (mvT hZ (hw _ w2)) (mvT hZ (hw _ w3)) (mvT hZ (hw _ w4)) hy (backOf (W := (rest.map fun v => v.category).sum) (Q := fun v h L => Fr Z.heap.size L ∧ ∃ M', Q' v M' ∧ Own Z h M') (hM l _ OO) hZ (hw _ w4) (hw _ w3) hf hl) (g := mkF m pc Ls (as.reverse ++ rest)) rfl (by rw [hml]; exact hsz) (argsL := as) (rest := rest) (lenOf (ps := sig.parameters) (r := sig.returnType) hsig hlen) rfl (by show 2 * 0 + _ ≤ _; omega) (hb hby hd) (fun _ _ => ⟨rfl, rfl, hc', hs'⟩)
  dsimp only [Pt.U, Pt.locs, Pt.cells, Pt.slots] at X' q1 q2 q3 sg hO
  subst q1 q2 q3
  obtain ⟨t, o, hs, r⟩ := g v M' hQ T' ⟨_, X', Fr.app F hF, hO⟩
  exact ⟨t, o, sg.trans hs, r⟩
abbrev y_1 : MethodName := ⟨"com/example/quintet/quintet/OutputsKcPinLaw", "put", "([BIJ)V"⟩
theorem d1_0 : decode method_3_code 0 = .ok (.aload_n 0, 1) := by decide +kernel
theorem d1_1 : decode method_3_code 1 = .ok (.iload_n 1, 1) := by decide +kernel
theorem d1_2 : decode method_3_code 2 = .ok (.lload_n 2, 1) := by decide +kernel
theorem d1_3 : decode method_3_code 3 = .ok (.bipush 56, 2) := by decide +kernel
theorem d1_5 : decode method_3_code 5 = .ok (.lushr, 1) := by decide +kernel
theorem d1_6 : decode method_3_code 6 = .ok (.l2i, 1) := by decide +kernel
theorem d1_7 : decode method_3_code 7 = .ok (.i2b, 1) := by decide +kernel
theorem d1_8 : decode method_3_code 8 = .ok (.bastore, 1) := by decide +kernel
theorem d1_9 : decode method_3_code 9 = .ok (.aload_n 0, 1) := by decide +kernel
theorem d1_10 : decode method_3_code 10 = .ok (.iload_n 1, 1) := by decide +kernel
theorem d1_11 : decode method_3_code 11 = .ok (.iconst 1, 1) := by decide +kernel
theorem d1_12 : decode method_3_code 12 = .ok (.iadd, 1) := by decide +kernel
theorem d1_13 : decode method_3_code 13 = .ok (.lload_n 2, 1) := by decide +kernel
theorem d1_14 : decode method_3_code 14 = .ok (.bipush 48, 2) := by decide +kernel
theorem d1_16 : decode method_3_code 16 = .ok (.lushr, 1) := by decide +kernel
theorem d1_17 : decode method_3_code 17 = .ok (.l2i, 1) := by decide +kernel
theorem d1_18 : decode method_3_code 18 = .ok (.i2b, 1) := by decide +kernel
theorem d1_19 : decode method_3_code 19 = .ok (.bastore, 1) := by decide +kernel
theorem d1_20 : decode method_3_code 20 = .ok (.aload_n 0, 1) := by decide +kernel
theorem d1_21 : decode method_3_code 21 = .ok (.iload_n 1, 1) := by decide +kernel
theorem d1_22 : decode method_3_code 22 = .ok (.iconst 2, 1) := by decide +kernel
theorem d1_23 : decode method_3_code 23 = .ok (.iadd, 1) := by decide +kernel
theorem d1_24 : decode method_3_code 24 = .ok (.lload_n 2, 1) := by decide +kernel
theorem d1_25 : decode method_3_code 25 = .ok (.bipush 40, 2) := by decide +kernel
theorem d1_27 : decode method_3_code 27 = .ok (.lushr, 1) := by decide +kernel
theorem d1_28 : decode method_3_code 28 = .ok (.l2i, 1) := by decide +kernel
theorem d1_29 : decode method_3_code 29 = .ok (.i2b, 1) := by decide +kernel
theorem d1_30 : decode method_3_code 30 = .ok (.bastore, 1) := by decide +kernel
theorem d1_31 : decode method_3_code 31 = .ok (.aload_n 0, 1) := by decide +kernel
theorem d1_32 : decode method_3_code 32 = .ok (.iload_n 1, 1) := by decide +kernel
theorem d1_33 : decode method_3_code 33 = .ok (.iconst 3, 1) := by decide +kernel
theorem d1_34 : decode method_3_code 34 = .ok (.iadd, 1) := by decide +kernel
theorem d1_35 : decode method_3_code 35 = .ok (.lload_n 2, 1) := by decide +kernel
theorem d1_36 : decode method_3_code 36 = .ok (.bipush 32, 2) := by decide +kernel
theorem d1_38 : decode method_3_code 38 = .ok (.lushr, 1) := by decide +kernel
theorem d1_39 : decode method_3_code 39 = .ok (.l2i, 1) := by decide +kernel
theorem d1_40 : decode method_3_code 40 = .ok (.i2b, 1) := by decide +kernel
theorem d1_41 : decode method_3_code 41 = .ok (.bastore, 1) := by decide +kernel
theorem d1_42 : decode method_3_code 42 = .ok (.aload_n 0, 1) := by decide +kernel
theorem d1_43 : decode method_3_code 43 = .ok (.iload_n 1, 1) := by decide +kernel
theorem d1_44 : decode method_3_code 44 = .ok (.iconst 4, 1) := by decide +kernel
theorem d1_45 : decode method_3_code 45 = .ok (.iadd, 1) := by decide +kernel
theorem d1_46 : decode method_3_code 46 = .ok (.lload_n 2, 1) := by decide +kernel
theorem d1_47 : decode method_3_code 47 = .ok (.bipush 24, 2) := by decide +kernel
theorem d1_49 : decode method_3_code 49 = .ok (.lushr, 1) := by decide +kernel
theorem d1_50 : decode method_3_code 50 = .ok (.l2i, 1) := by decide +kernel
theorem d1_51 : decode method_3_code 51 = .ok (.i2b, 1) := by decide +kernel
theorem d1_52 : decode method_3_code 52 = .ok (.bastore, 1) := by decide +kernel
theorem d1_53 : decode method_3_code 53 = .ok (.aload_n 0, 1) := by decide +kernel
theorem d1_54 : decode method_3_code 54 = .ok (.iload_n 1, 1) := by decide +kernel
theorem d1_55 : decode method_3_code 55 = .ok (.iconst 5, 1) := by decide +kernel
theorem d1_56 : decode method_3_code 56 = .ok (.iadd, 1) := by decide +kernel
theorem d1_57 : decode method_3_code 57 = .ok (.lload_n 2, 1) := by decide +kernel
theorem d1_58 : decode method_3_code 58 = .ok (.bipush 16, 2) := by decide +kernel
theorem d1_60 : decode method_3_code 60 = .ok (.lushr, 1) := by decide +kernel
theorem d1_61 : decode method_3_code 61 = .ok (.l2i, 1) := by decide +kernel
theorem d1_62 : decode method_3_code 62 = .ok (.i2b, 1) := by decide +kernel
theorem d1_63 : decode method_3_code 63 = .ok (.bastore, 1) := by decide +kernel
theorem d1_64 : decode method_3_code 64 = .ok (.aload_n 0, 1) := by decide +kernel
theorem d1_65 : decode method_3_code 65 = .ok (.iload_n 1, 1) := by decide +kernel
theorem d1_66 : decode method_3_code 66 = .ok (.bipush 6, 2) := by decide +kernel
theorem d1_68 : decode method_3_code 68 = .ok (.iadd, 1) := by decide +kernel
theorem d1_69 : decode method_3_code 69 = .ok (.lload_n 2, 1) := by decide +kernel
theorem d1_70 : decode method_3_code 70 = .ok (.bipush 8, 2) := by decide +kernel
theorem d1_72 : decode method_3_code 72 = .ok (.lushr, 1) := by decide +kernel
theorem d1_73 : decode method_3_code 73 = .ok (.l2i, 1) := by decide +kernel
theorem d1_74 : decode method_3_code 74 = .ok (.i2b, 1) := by decide +kernel
theorem d1_75 : decode method_3_code 75 = .ok (.bastore, 1) := by decide +kernel
theorem d1_76 : decode method_3_code 76 = .ok (.aload_n 0, 1) := by decide +kernel
theorem d1_77 : decode method_3_code 77 = .ok (.iload_n 1, 1) := by decide +kernel
theorem d1_78 : decode method_3_code 78 = .ok (.bipush 7, 2) := by decide +kernel
theorem d1_80 : decode method_3_code 80 = .ok (.iadd, 1) := by decide +kernel
theorem d1_81 : decode method_3_code 81 = .ok (.lload_n 2, 1) := by decide +kernel
theorem d1_82 : decode method_3_code 82 = .ok (.l2i, 1) := by decide +kernel
theorem d1_83 : decode method_3_code 83 = .ok (.i2b, 1) := by decide +kernel
theorem d1_84 : decode method_3_code 84 = .ok (.bastore, 1) := by decide +kernel
theorem d1_85 : decode method_3_code 85 = .ok (.return_, 1) := by decide +kernel
theorem pl_1 : plainFor y_1 = true := plainFor_of_name (by first | (simp [plainName, overriddenIn]; done) | decide +kernel)
theorem pd_1 : parseMethodDescriptor "([BIJ)V" = some ⟨[(.array .byte), .int, .long], none⟩ := by decide +kernel
abbrev y_2 : MethodName := ⟨"com/example/quintet/quintet/Milenage$Outputs", "<init>", "([B[B[B[B[B[B[B[B)V"⟩
theorem d2_0 : decode prog_30_method_1_code 0 = .ok (.aload_n 0, 1) := by decide +kernel
theorem d2_1 : decode prog_30_method_1_code 1 = .ok (.invokespecial 1, 3) := by decide +kernel
theorem d2_4 : decode prog_30_method_1_code 4 = .ok (.aload_n 0, 1) := by decide +kernel
theorem d2_5 : decode prog_30_method_1_code 5 = .ok (.aload_n 1, 1) := by decide +kernel
theorem d2_6 : decode prog_30_method_1_code 6 = .ok (.putfield 7, 3) := by decide +kernel
theorem d2_9 : decode prog_30_method_1_code 9 = .ok (.aload_n 0, 1) := by decide +kernel
theorem d2_10 : decode prog_30_method_1_code 10 = .ok (.aload_n 2, 1) := by decide +kernel
theorem d2_11 : decode prog_30_method_1_code 11 = .ok (.putfield 13, 3) := by decide +kernel
theorem d2_14 : decode prog_30_method_1_code 14 = .ok (.aload_n 0, 1) := by decide +kernel
theorem d2_15 : decode prog_30_method_1_code 15 = .ok (.aload_n 3, 1) := by decide +kernel
theorem d2_16 : decode prog_30_method_1_code 16 = .ok (.putfield 16, 3) := by decide +kernel
theorem d2_19 : decode prog_30_method_1_code 19 = .ok (.aload_n 0, 1) := by decide +kernel
theorem d2_20 : decode prog_30_method_1_code 20 = .ok (.aload 4, 2) := by decide +kernel
theorem d2_22 : decode prog_30_method_1_code 22 = .ok (.putfield 19, 3) := by decide +kernel
theorem d2_25 : decode prog_30_method_1_code 25 = .ok (.aload_n 0, 1) := by decide +kernel
theorem d2_26 : decode prog_30_method_1_code 26 = .ok (.aload 5, 2) := by decide +kernel
theorem d2_28 : decode prog_30_method_1_code 28 = .ok (.putfield 22, 3) := by decide +kernel
theorem d2_31 : decode prog_30_method_1_code 31 = .ok (.aload_n 0, 1) := by decide +kernel
theorem d2_32 : decode prog_30_method_1_code 32 = .ok (.aload 6, 2) := by decide +kernel
theorem d2_34 : decode prog_30_method_1_code 34 = .ok (.putfield 25, 3) := by decide +kernel
theorem d2_37 : decode prog_30_method_1_code 37 = .ok (.aload_n 0, 1) := by decide +kernel
theorem d2_38 : decode prog_30_method_1_code 38 = .ok (.aload 7, 2) := by decide +kernel
theorem d2_40 : decode prog_30_method_1_code 40 = .ok (.putfield 28, 3) := by decide +kernel
theorem d2_43 : decode prog_30_method_1_code 43 = .ok (.aload_n 0, 1) := by decide +kernel
theorem d2_44 : decode prog_30_method_1_code 44 = .ok (.aload 8, 2) := by decide +kernel
theorem d2_46 : decode prog_30_method_1_code 46 = .ok (.putfield 31, 3) := by decide +kernel
theorem d2_49 : decode prog_30_method_1_code 49 = .ok (.return_, 1) := by decide +kernel
theorem pl_2 : plainFor y_2 = true := plainFor_of_name (by first | (simp [plainName, overriddenIn]; done) | decide +kernel)
theorem pd_2 : parseMethodDescriptor "([B[B[B[B[B[B[B[B)V" = some ⟨[(.array .byte), (.array .byte), (.array .byte), (.array .byte), (.array .byte), (.array .byte), (.array .byte), (.array .byte)], none⟩ := by decide +kernel
abbrev y_3 : MethodName := ⟨"java/lang/Record", "<init>", "()V"⟩
theorem d3_0 : decode jdk_30_method_1_code 0 = .ok (.aload_n 0, 1) := by decide +kernel
theorem d3_1 : decode jdk_30_method_1_code 1 = .ok (.invokespecial 1, 3) := by decide +kernel
theorem d3_4 : decode jdk_30_method_1_code 4 = .ok (.return_, 1) := by decide +kernel
theorem pl_3 : plainFor y_3 = true := plainFor_of_name (by first | (simp [plainName, overriddenIn]; done) | decide +kernel)
theorem pd_3 : parseMethodDescriptor "()V" = some ⟨[], none⟩ := by decide +kernel
abbrev y_5 : MethodName := ⟨"com/example/quintet/quintet/Milenage$Outputs", "kc", "()[B"⟩
theorem d5_0 : decode prog_30_method_3_code 0 = .ok (.aload_n 0, 1) := by decide +kernel
theorem d5_1 : decode prog_30_method_3_code 1 = .ok (.getfield 19, 3) := by decide +kernel
theorem d5_4 : decode prog_30_method_3_code 4 = .ok (.iconst 0, 1) := by decide +kernel
theorem d5_5 : decode prog_30_method_3_code 5 = .ok (.bipush 8, 2) := by decide +kernel
theorem d5_7 : decode prog_30_method_3_code 7 = .ok (.invokestatic 34, 3) := by decide +kernel
theorem d5_10 : decode prog_30_method_3_code 10 = .ok (.aload_n 0, 1) := by decide +kernel
theorem d5_11 : decode prog_30_method_3_code 11 = .ok (.getfield 19, 3) := by decide +kernel
theorem d5_14 : decode prog_30_method_3_code 14 = .ok (.bipush 8, 2) := by decide +kernel
theorem d5_16 : decode prog_30_method_3_code 16 = .ok (.bipush 16, 2) := by decide +kernel
theorem d5_18 : decode prog_30_method_3_code 18 = .ok (.invokestatic 34, 3) := by decide +kernel
theorem d5_21 : decode prog_30_method_3_code 21 = .ok (.invokestatic 40, 3) := by decide +kernel
theorem d5_24 : decode prog_30_method_3_code 24 = .ok (.aload_n 0, 1) := by decide +kernel
theorem d5_25 : decode prog_30_method_3_code 25 = .ok (.getfield 22, 3) := by decide +kernel
theorem d5_28 : decode prog_30_method_3_code 28 = .ok (.iconst 0, 1) := by decide +kernel
theorem d5_29 : decode prog_30_method_3_code 29 = .ok (.bipush 8, 2) := by decide +kernel
theorem d5_31 : decode prog_30_method_3_code 31 = .ok (.invokestatic 34, 3) := by decide +kernel
theorem d5_34 : decode prog_30_method_3_code 34 = .ok (.aload_n 0, 1) := by decide +kernel
theorem d5_35 : decode prog_30_method_3_code 35 = .ok (.getfield 22, 3) := by decide +kernel
theorem d5_38 : decode prog_30_method_3_code 38 = .ok (.bipush 8, 2) := by decide +kernel
theorem d5_40 : decode prog_30_method_3_code 40 = .ok (.bipush 16, 2) := by decide +kernel
theorem d5_42 : decode prog_30_method_3_code 42 = .ok (.invokestatic 34, 3) := by decide +kernel
theorem d5_45 : decode prog_30_method_3_code 45 = .ok (.invokestatic 40, 3) := by decide +kernel
theorem d5_48 : decode prog_30_method_3_code 48 = .ok (.invokestatic 40, 3) := by decide +kernel
theorem d5_51 : decode prog_30_method_3_code 51 = .ok (.areturn, 1) := by decide +kernel
theorem pl_5 : plainFor y_5 = true := plainFor_of_name (by first | (simp [plainName, overriddenIn]; done) | decide +kernel)
theorem pd_5 : parseMethodDescriptor "()[B" = some ⟨[], some (.array .byte)⟩ := by decide +kernel
abbrev y_6 : MethodName := ⟨"java/util/Arrays", "copyOfRange", "([BII)[B"⟩
theorem d6_0 : decode jdk_65_method_132_code 0 = .ok (.iload_n 1, 1) := by decide +kernel
theorem d6_1 : decode jdk_65_method_132_code 1 = .ok (.ifCond .ne 9, 3) := by decide +kernel
theorem d6_4 : decode jdk_65_method_132_code 4 = .ok (.iload_n 2, 1) := by decide +kernel
theorem d6_5 : decode jdk_65_method_132_code 5 = .ok (.aload_n 0, 1) := by decide +kernel
theorem d6_6 : decode jdk_65_method_132_code 6 = .ok (.arraylength, 1) := by decide +kernel
theorem d6_7 : decode jdk_65_method_132_code 7 = .ok (.if_icmp .eq 10, 3) := by decide +kernel
theorem d6_10 : decode jdk_65_method_132_code 10 = .ok (.aload_n 0, 1) := by decide +kernel
theorem d6_11 : decode jdk_65_method_132_code 11 = .ok (.iload_n 1, 1) := by decide +kernel
theorem d6_12 : decode jdk_65_method_132_code 12 = .ok (.iload_n 2, 1) := by decide +kernel
theorem d6_13 : decode jdk_65_method_132_code 13 = .ok (.invokestatic 339, 3) := by decide +kernel
theorem d6_16 : decode jdk_65_method_132_code 16 = .ok (.areturn, 1) := by decide +kernel
theorem pl_6 : plainFor y_6 = true := plainFor_of_name (by first | (simp [plainName, overriddenIn]; done) | decide +kernel)
theorem pd_6 : parseMethodDescriptor "([BII)[B" = some ⟨[(.array .byte), .int, .int], some (.array .byte)⟩ := by decide +kernel
abbrev y_7 : MethodName := ⟨"java/util/Arrays", "copyOfRangeByte", "([BII)[B"⟩
theorem d7_0 : decode jdk_65_method_133_code 0 = .ok (.iload_n 1, 1) := by decide +kernel
theorem d7_1 : decode jdk_65_method_133_code 1 = .ok (.iload_n 2, 1) := by decide +kernel
theorem d7_2 : decode jdk_65_method_133_code 2 = .ok (.invokestatic 343, 3) := by decide +kernel
theorem d7_5 : decode jdk_65_method_133_code 5 = .ok (.iload_n 2, 1) := by decide +kernel
theorem d7_6 : decode jdk_65_method_133_code 6 = .ok (.iload_n 1, 1) := by decide +kernel
theorem d7_7 : decode jdk_65_method_133_code 7 = .ok (.isub, 1) := by decide +kernel
theorem d7_8 : decode jdk_65_method_133_code 8 = .ok (.istore_n 3, 1) := by decide +kernel
theorem d7_9 : decode jdk_65_method_133_code 9 = .ok (.iload_n 3, 1) := by decide +kernel
theorem d7_10 : decode jdk_65_method_133_code 10 = .ok (.newarray .byte, 2) := by decide +kernel
theorem d7_12 : decode jdk_65_method_133_code 12 = .ok (.astore 4, 2) := by decide +kernel
theorem d7_14 : decode jdk_65_method_133_code 14 = .ok (.aload_n 0, 1) := by decide +kernel
theorem d7_15 : decode jdk_65_method_133_code 15 = .ok (.iload_n 1, 1) := by decide +kernel
theorem d7_16 : decode jdk_65_method_133_code 16 = .ok (.aload 4, 2) := by decide +kernel
theorem d7_18 : decode jdk_65_method_133_code 18 = .ok (.iconst 0, 1) := by decide +kernel
theorem d7_19 : decode jdk_65_method_133_code 19 = .ok (.aload_n 0, 1) := by decide +kernel
theorem d7_20 : decode jdk_65_method_133_code 20 = .ok (.arraylength, 1) := by decide +kernel
theorem d7_21 : decode jdk_65_method_133_code 21 = .ok (.iload_n 1, 1) := by decide +kernel
theorem d7_22 : decode jdk_65_method_133_code 22 = .ok (.isub, 1) := by decide +kernel
theorem d7_23 : decode jdk_65_method_133_code 23 = .ok (.iload_n 3, 1) := by decide +kernel
theorem d7_24 : decode jdk_65_method_133_code 24 = .ok (.invokestatic 304, 3) := by decide +kernel
theorem d7_27 : decode jdk_65_method_133_code 27 = .ok (.invokestatic 150, 3) := by decide +kernel
theorem d7_30 : decode jdk_65_method_133_code 30 = .ok (.aload 4, 2) := by decide +kernel
theorem d7_32 : decode jdk_65_method_133_code 32 = .ok (.areturn, 1) := by decide +kernel
theorem pl_7 : plainFor y_7 = true := plainFor_of_name (by first | (simp [plainName, overriddenIn]; done) | decide +kernel)
theorem pd_7 : parseMethodDescriptor "([BII)[B" = some ⟨[(.array .byte), .int, .int], some (.array .byte)⟩ := by decide +kernel
abbrev y_8 : MethodName := ⟨"java/util/Arrays", "checkLength", "(II)V"⟩
theorem d8_0 : decode jdk_65_method_131_code 0 = .ok (.iload_n 1, 1) := by decide +kernel
theorem d8_1 : decode jdk_65_method_131_code 1 = .ok (.iload_n 0, 1) := by decide +kernel
theorem d8_2 : decode jdk_65_method_131_code 2 = .ok (.if_icmp .ge 35, 3) := by decide +kernel
theorem d8_37 : decode jdk_65_method_131_code 37 = .ok (.return_, 1) := by decide +kernel
theorem pl_8 : plainFor y_8 = true := plainFor_of_name (by first | (simp [plainName, overriddenIn]; done) | decide +kernel)
theorem pd_8 : parseMethodDescriptor "(II)V" = some ⟨[.int, .int], none⟩ := by decide +kernel
abbrev y_9 : MethodName := ⟨"java/lang/Math", "min", "(II)I"⟩
theorem d9_0 : decode jdk_29_method_69_code 0 = .ok (.iload_n 0, 1) := by decide +kernel
theorem d9_1 : decode jdk_29_method_69_code 1 = .ok (.iload_n 1, 1) := by decide +kernel
theorem d9_2 : decode jdk_29_method_69_code 2 = .ok (.if_icmp .gt 7, 3) := by decide +kernel
theorem d9_5 : decode jdk_29_method_69_code 5 = .ok (.iload_n 0, 1) := by decide +kernel
theorem d9_6 : decode jdk_29_method_69_code 6 = .ok (.goto 4, 3) := by decide +kernel
theorem d9_9 : decode jdk_29_method_69_code 9 = .ok (.iload_n 1, 1) := by decide +kernel
theorem d9_10 : decode jdk_29_method_69_code 10 = .ok (.ireturn, 1) := by decide +kernel
theorem pl_9 : plainFor y_9 = true := Jvm.Free.JP.mathPlain rfl (by decide +kernel)
theorem pd_9 : parseMethodDescriptor "(II)I" = some ⟨[.int, .int], some .int⟩ := by decide +kernel
abbrev y_10 : MethodName := ⟨"com/example/quintet/quintet/Milenage", "xor", "([B[B)[B"⟩
theorem d10_0 : decode prog_29_method_7_code 0 = .ok (.aload_n 0, 1) := by decide +kernel
theorem d10_1 : decode prog_29_method_7_code 1 = .ok (.arraylength, 1) := by decide +kernel
theorem d10_2 : decode prog_29_method_7_code 2 = .ok (.newarray .byte, 2) := by decide +kernel
theorem d10_4 : decode prog_29_method_7_code 4 = .ok (.astore_n 2, 1) := by decide +kernel
theorem d10_5 : decode prog_29_method_7_code 5 = .ok (.iconst 0, 1) := by decide +kernel
theorem d10_6 : decode prog_29_method_7_code 6 = .ok (.istore_n 3, 1) := by decide +kernel
theorem d10_7 : decode prog_29_method_7_code 7 = .ok (.iload_n 3, 1) := by decide +kernel
theorem d10_8 : decode prog_29_method_7_code 8 = .ok (.aload_n 0, 1) := by decide +kernel
theorem d10_9 : decode prog_29_method_7_code 9 = .ok (.arraylength, 1) := by decide +kernel
theorem d10_10 : decode prog_29_method_7_code 10 = .ok (.if_icmp .ge 20, 3) := by decide +kernel
theorem d10_13 : decode prog_29_method_7_code 13 = .ok (.aload_n 2, 1) := by decide +kernel
theorem d10_14 : decode prog_29_method_7_code 14 = .ok (.iload_n 3, 1) := by decide +kernel
theorem d10_15 : decode prog_29_method_7_code 15 = .ok (.aload_n 0, 1) := by decide +kernel
theorem d10_16 : decode prog_29_method_7_code 16 = .ok (.iload_n 3, 1) := by decide +kernel
theorem d10_17 : decode prog_29_method_7_code 17 = .ok (.baload, 1) := by decide +kernel
theorem d10_18 : decode prog_29_method_7_code 18 = .ok (.aload_n 1, 1) := by decide +kernel
theorem d10_19 : decode prog_29_method_7_code 19 = .ok (.iload_n 3, 1) := by decide +kernel
theorem d10_20 : decode prog_29_method_7_code 20 = .ok (.baload, 1) := by decide +kernel
theorem d10_21 : decode prog_29_method_7_code 21 = .ok (.ixor, 1) := by decide +kernel
theorem d10_22 : decode prog_29_method_7_code 22 = .ok (.i2b, 1) := by decide +kernel
theorem d10_23 : decode prog_29_method_7_code 23 = .ok (.bastore, 1) := by decide +kernel
theorem d10_24 : decode prog_29_method_7_code 24 = .ok (.iinc 3 1, 3) := by decide +kernel
theorem d10_27 : decode prog_29_method_7_code 27 = .ok (.goto (-20), 3) := by decide +kernel
theorem d10_30 : decode prog_29_method_7_code 30 = .ok (.aload_n 2, 1) := by decide +kernel
theorem d10_31 : decode prog_29_method_7_code 31 = .ok (.areturn, 1) := by decide +kernel
theorem pl_10 : plainFor y_10 = true := plainFor_of_name (by first | (simp [plainName, overriddenIn]; done) | decide +kernel)
theorem pd_10 : parseMethodDescriptor "([B[B)[B" = some ⟨[(.array .byte), (.array .byte)], some (.array .byte)⟩ := by decide +kernel
abbrev y_11 : MethodName := ⟨"com/example/quintet/quintet/OutputsKcPinLaw", "get", "([BI)J"⟩
theorem d11_0 : decode method_4_code 0 = .ok (.aload_n 0, 1) := by decide +kernel
theorem d11_1 : decode method_4_code 1 = .ok (.iload_n 1, 1) := by decide +kernel
theorem d11_2 : decode method_4_code 2 = .ok (.baload, 1) := by decide +kernel
theorem d11_3 : decode method_4_code 3 = .ok (.sipush 255, 3) := by decide +kernel
theorem d11_6 : decode method_4_code 6 = .ok (.iand, 1) := by decide +kernel
theorem d11_7 : decode method_4_code 7 = .ok (.i2l, 1) := by decide +kernel
theorem d11_8 : decode method_4_code 8 = .ok (.bipush 56, 2) := by decide +kernel
theorem d11_10 : decode method_4_code 10 = .ok (.lshl, 1) := by decide +kernel
theorem d11_11 : decode method_4_code 11 = .ok (.aload_n 0, 1) := by decide +kernel
theorem d11_12 : decode method_4_code 12 = .ok (.iload_n 1, 1) := by decide +kernel
theorem d11_13 : decode method_4_code 13 = .ok (.iconst 1, 1) := by decide +kernel
theorem d11_14 : decode method_4_code 14 = .ok (.iadd, 1) := by decide +kernel
theorem d11_15 : decode method_4_code 15 = .ok (.baload, 1) := by decide +kernel
theorem d11_16 : decode method_4_code 16 = .ok (.sipush 255, 3) := by decide +kernel
theorem d11_19 : decode method_4_code 19 = .ok (.iand, 1) := by decide +kernel
theorem d11_20 : decode method_4_code 20 = .ok (.i2l, 1) := by decide +kernel
theorem d11_21 : decode method_4_code 21 = .ok (.bipush 48, 2) := by decide +kernel
theorem d11_23 : decode method_4_code 23 = .ok (.lshl, 1) := by decide +kernel
theorem d11_24 : decode method_4_code 24 = .ok (.lor, 1) := by decide +kernel
theorem d11_25 : decode method_4_code 25 = .ok (.aload_n 0, 1) := by decide +kernel
theorem d11_26 : decode method_4_code 26 = .ok (.iload_n 1, 1) := by decide +kernel
theorem d11_27 : decode method_4_code 27 = .ok (.iconst 2, 1) := by decide +kernel
theorem d11_28 : decode method_4_code 28 = .ok (.iadd, 1) := by decide +kernel
theorem d11_29 : decode method_4_code 29 = .ok (.baload, 1) := by decide +kernel
theorem d11_30 : decode method_4_code 30 = .ok (.sipush 255, 3) := by decide +kernel
theorem d11_33 : decode method_4_code 33 = .ok (.iand, 1) := by decide +kernel
theorem d11_34 : decode method_4_code 34 = .ok (.i2l, 1) := by decide +kernel
theorem d11_35 : decode method_4_code 35 = .ok (.bipush 40, 2) := by decide +kernel
theorem d11_37 : decode method_4_code 37 = .ok (.lshl, 1) := by decide +kernel
theorem d11_38 : decode method_4_code 38 = .ok (.lor, 1) := by decide +kernel
theorem d11_39 : decode method_4_code 39 = .ok (.aload_n 0, 1) := by decide +kernel
theorem d11_40 : decode method_4_code 40 = .ok (.iload_n 1, 1) := by decide +kernel
theorem d11_41 : decode method_4_code 41 = .ok (.iconst 3, 1) := by decide +kernel
theorem d11_42 : decode method_4_code 42 = .ok (.iadd, 1) := by decide +kernel
theorem d11_43 : decode method_4_code 43 = .ok (.baload, 1) := by decide +kernel
theorem d11_44 : decode method_4_code 44 = .ok (.sipush 255, 3) := by decide +kernel
theorem d11_47 : decode method_4_code 47 = .ok (.iand, 1) := by decide +kernel
theorem d11_48 : decode method_4_code 48 = .ok (.i2l, 1) := by decide +kernel
theorem d11_49 : decode method_4_code 49 = .ok (.bipush 32, 2) := by decide +kernel
theorem d11_51 : decode method_4_code 51 = .ok (.lshl, 1) := by decide +kernel
theorem d11_52 : decode method_4_code 52 = .ok (.lor, 1) := by decide +kernel
theorem d11_53 : decode method_4_code 53 = .ok (.aload_n 0, 1) := by decide +kernel
theorem d11_54 : decode method_4_code 54 = .ok (.iload_n 1, 1) := by decide +kernel
theorem d11_55 : decode method_4_code 55 = .ok (.iconst 4, 1) := by decide +kernel
theorem d11_56 : decode method_4_code 56 = .ok (.iadd, 1) := by decide +kernel
theorem d11_57 : decode method_4_code 57 = .ok (.baload, 1) := by decide +kernel
theorem d11_58 : decode method_4_code 58 = .ok (.sipush 255, 3) := by decide +kernel
theorem d11_61 : decode method_4_code 61 = .ok (.iand, 1) := by decide +kernel
theorem d11_62 : decode method_4_code 62 = .ok (.i2l, 1) := by decide +kernel
theorem d11_63 : decode method_4_code 63 = .ok (.bipush 24, 2) := by decide +kernel
theorem d11_65 : decode method_4_code 65 = .ok (.lshl, 1) := by decide +kernel
theorem d11_66 : decode method_4_code 66 = .ok (.lor, 1) := by decide +kernel
theorem d11_67 : decode method_4_code 67 = .ok (.aload_n 0, 1) := by decide +kernel
theorem d11_68 : decode method_4_code 68 = .ok (.iload_n 1, 1) := by decide +kernel
theorem d11_69 : decode method_4_code 69 = .ok (.iconst 5, 1) := by decide +kernel
theorem d11_70 : decode method_4_code 70 = .ok (.iadd, 1) := by decide +kernel
theorem d11_71 : decode method_4_code 71 = .ok (.baload, 1) := by decide +kernel
theorem d11_72 : decode method_4_code 72 = .ok (.sipush 255, 3) := by decide +kernel
theorem d11_75 : decode method_4_code 75 = .ok (.iand, 1) := by decide +kernel
theorem d11_76 : decode method_4_code 76 = .ok (.i2l, 1) := by decide +kernel
theorem d11_77 : decode method_4_code 77 = .ok (.bipush 16, 2) := by decide +kernel
theorem d11_79 : decode method_4_code 79 = .ok (.lshl, 1) := by decide +kernel
theorem d11_80 : decode method_4_code 80 = .ok (.lor, 1) := by decide +kernel
theorem d11_81 : decode method_4_code 81 = .ok (.aload_n 0, 1) := by decide +kernel
theorem d11_82 : decode method_4_code 82 = .ok (.iload_n 1, 1) := by decide +kernel
theorem d11_83 : decode method_4_code 83 = .ok (.bipush 6, 2) := by decide +kernel
theorem d11_85 : decode method_4_code 85 = .ok (.iadd, 1) := by decide +kernel
theorem d11_86 : decode method_4_code 86 = .ok (.baload, 1) := by decide +kernel
theorem d11_87 : decode method_4_code 87 = .ok (.sipush 255, 3) := by decide +kernel
theorem d11_90 : decode method_4_code 90 = .ok (.iand, 1) := by decide +kernel
theorem d11_91 : decode method_4_code 91 = .ok (.i2l, 1) := by decide +kernel
theorem d11_92 : decode method_4_code 92 = .ok (.bipush 8, 2) := by decide +kernel
theorem d11_94 : decode method_4_code 94 = .ok (.lshl, 1) := by decide +kernel
theorem d11_95 : decode method_4_code 95 = .ok (.lor, 1) := by decide +kernel
theorem d11_96 : decode method_4_code 96 = .ok (.aload_n 0, 1) := by decide +kernel
theorem d11_97 : decode method_4_code 97 = .ok (.iload_n 1, 1) := by decide +kernel
theorem d11_98 : decode method_4_code 98 = .ok (.bipush 7, 2) := by decide +kernel
theorem d11_100 : decode method_4_code 100 = .ok (.iadd, 1) := by decide +kernel
theorem d11_101 : decode method_4_code 101 = .ok (.baload, 1) := by decide +kernel
theorem d11_102 : decode method_4_code 102 = .ok (.sipush 255, 3) := by decide +kernel
theorem d11_105 : decode method_4_code 105 = .ok (.iand, 1) := by decide +kernel
theorem d11_106 : decode method_4_code 106 = .ok (.i2l, 1) := by decide +kernel
theorem d11_107 : decode method_4_code 107 = .ok (.lor, 1) := by decide +kernel
theorem d11_108 : decode method_4_code 108 = .ok (.lreturn, 1) := by decide +kernel
theorem pl_11 : plainFor y_11 = true := plainFor_of_name (by first | (simp [plainName, overriddenIn]; done) | decide +kernel)
theorem pd_11 : parseMethodDescriptor "([BI)J" = some ⟨[(.array .byte), .int], some .long⟩ := by decide +kernel
def LQ : Option Value → Hp → Prop := fun v _ => v = some (.int 1)
theorem own_addN (m n : Nat) : m.toInt32 + n.toInt32 = (m + n).toInt32 := (Int32.ofNat_add m n).symm
theorem own_subN {m n : Nat} (h : n ≤ m) (hm : m < 2147483648) : m.toInt32 - n.toInt32 = (m - n).toInt32 := by
  apply Int32.toInt_inj.mp
  have s := c_isub m.toInt32 n.toInt32
  have r := rng32 (m.toInt32 - n.toInt32)
  rw [(own_nat hm).2.2, (own_nat (by omega)).2.2] at s
  rw [(own_nat (m := m - n) (by omega)).2.2]
  omega
theorem own_modN {m n : Nat} (hm : m < 2147483648) (hn : n < 2147483648) : m.toInt32 % n.toInt32 = (m % n).toInt32 := by
  have : m % n ≤ m := Nat.mod_le m n
  apply Int32.toInt_inj.mp
  rw [Int32.toInt_mod, (own_nat hm).2.2, (own_nat hn).2.2, (own_nat (by omega)).2.2, Int.tmod_eq_emod_of_nonneg (by omega)]
  rfl
theorem own_inj {m n : Nat} (h : m < 2147483648) (h' : n < 2147483648) : m.toInt32 = n.toInt32 ↔ m = n := ⟨fun e => by have := congrArg Int32.toInt e; rw [(own_nat h).2.2, (own_nat h').2.2] at this; omega, fun e => by rw [e]⟩
theorem own_ne0 {n : Nat} (h : 0 < n) (h' : n < 2147483648) : n.toInt32 ≠ 0 := fun e => by
  have := (own_inj h' (by decide : 0 < 2147483648)).mp e
  omega
theorem nar_i8 (x : Int32) : nar .byte x.toInt8.toInt32 = x.toInt8.toInt32 := by
  show x.toInt8.toInt32.toInt8.toInt32 = x.toInt8.toInt32
  have h := c_i2b x
  have h2 := c_i2b x.toInt8.toInt32
  apply Int32.toInt_inj.mp
  omega
def pb56 (v : Int64) : Int32 := ((v.toUInt64 >>> ((56 : Int32) &&& 0x3f).toInt64.toUInt64).toInt64).toInt32.toInt8.toInt32
def pb48 (v : Int64) : Int32 := ((v.toUInt64 >>> ((48 : Int32) &&& 0x3f).toInt64.toUInt64).toInt64).toInt32.toInt8.toInt32
def pb40 (v : Int64) : Int32 := ((v.toUInt64 >>> ((40 : Int32) &&& 0x3f).toInt64.toUInt64).toInt64).toInt32.toInt8.toInt32
def pb32 (v : Int64) : Int32 := ((v.toUInt64 >>> ((32 : Int32) &&& 0x3f).toInt64.toUInt64).toInt64).toInt32.toInt8.toInt32
def pb24 (v : Int64) : Int32 := ((v.toUInt64 >>> ((24 : Int32) &&& 0x3f).toInt64.toUInt64).toInt64).toInt32.toInt8.toInt32
def pb16 (v : Int64) : Int32 := ((v.toUInt64 >>> ((16 : Int32) &&& 0x3f).toInt64.toUInt64).toInt64).toInt32.toInt8.toInt32
def pb8 (v : Int64) : Int32 := ((v.toUInt64 >>> ((8 : Int32) &&& 0x3f).toInt64.toUInt64).toInt64).toInt32.toInt8.toInt32
def pb0 (v : Int64) : Int32 := v.toInt32.toInt8.toInt32
abbrev xb (x y : Int32) : Int32 := (x ^^^ y).toInt8.toInt32
abbrev g8 (x7 x6 x5 x4 x3 x2 x1 x0 : Int32) : Int64 := ((((((((((x7 &&& 255).toInt64) <<< ((56 : Int32) &&& 0x3f).toInt64) ||| (((x6 &&& 255).toInt64) <<< ((48 : Int32) &&& 0x3f).toInt64)) ||| (((x5 &&& 255).toInt64) <<< ((40 : Int32) &&& 0x3f).toInt64)) ||| (((x4 &&& 255).toInt64) <<< ((32 : Int32) &&& 0x3f).toInt64)) ||| (((x3 &&& 255).toInt64) <<< ((24 : Int32) &&& 0x3f).toInt64)) ||| (((x2 &&& 255).toInt64) <<< ((16 : Int32) &&& 0x3f).toInt64)) ||| (((x1 &&& 255).toInt64) <<< ((8 : Int32) &&& 0x3f).toInt64)) ||| ((x0 &&& 255).toInt64))
theorem own_pbk (v : Int64) (q : Int32) (k : Nat) (hk : q.toBitVec.toNat % 64 = k) (h0 : 0 < k) : ((((v.toUInt64 >>> (q &&& 0x3f).toInt64.toUInt64).toInt64).toInt32.toInt8.toInt32) &&& 255).toInt64.toInt = (v.toInt % 18446744073709551616) / (2 ^ k : Nat) % 256 := by
  have u := c_lushr v q k hk h0
  have l := c_l2i ((v.toUInt64 >>> (q &&& 0x3f).toInt64.toUInt64).toInt64)
  have i := c_i2b ((v.toUInt64 >>> (q &&& 0x3f).toInt64.toUInt64).toInt64).toInt32
  have m := c_mask (((v.toUInt64 >>> (q &&& 0x3f).toInt64.toUInt64).toInt64).toInt32.toInt8.toInt32) 255 8 (by decide) (by decide)
  rw [c_i2l, m]
  rw [u] at l
  omega
theorem own_pb0 (v : Int64) : (pb0 v &&& 255).toInt64.toInt = (v.toInt % 18446744073709551616) % 256 := by
  have l := c_l2i v
  have i := c_i2b v.toInt32
  have m := c_mask (v.toInt32.toInt8.toInt32) 255 8 (by decide) (by decide)
  show ((v.toInt32.toInt8.toInt32) &&& 255).toInt64.toInt = _
  rw [c_i2l, m]
  omega
theorem own_sum (V : Int) (h : 0 ≤ V ∧ V < 18446744073709551616) : V = V / 72057594037927936 % 256 * 72057594037927936 + V / 281474976710656 % 256 * 281474976710656 + V / 1099511627776 % 256 * 1099511627776 + V / 4294967296 % 256 * 4294967296 + V / 16777216 % 256 * 16777216 + V / 65536 % 256 * 65536 + V / 256 % 256 * 256 + V % 256 := by
  have e2 : V / 65536 = V / 256 / 256 := by rw [Int.ediv_ediv_of_nonneg (by decide)]; rfl
  have e3 : V / 16777216 = V / 256 / 256 / 256 := by rw [Int.ediv_ediv_of_nonneg (by decide), Int.ediv_ediv_of_nonneg (by decide)]; rfl
  have e4 : V / 4294967296 = V / 256 / 256 / 256 / 256 := by rw [Int.ediv_ediv_of_nonneg (by decide), Int.ediv_ediv_of_nonneg (by decide), Int.ediv_ediv_of_nonneg (by decide)]; rfl
  have e5 : V / 1099511627776 = V / 256 / 256 / 256 / 256 / 256 := by rw [Int.ediv_ediv_of_nonneg (by decide), Int.ediv_ediv_of_nonneg (by decide), Int.ediv_ediv_of_nonneg (by decide), Int.ediv_ediv_of_nonneg (by decide)]; rfl
  have e6 : V / 281474976710656 = V / 256 / 256 / 256 / 256 / 256 / 256 := by rw [Int.ediv_ediv_of_nonneg (by decide), Int.ediv_ediv_of_nonneg (by decide), Int.ediv_ediv_of_nonneg (by decide), Int.ediv_ediv_of_nonneg (by decide), Int.ediv_ediv_of_nonneg (by decide)]; rfl
  have e7 : V / 72057594037927936 = V / 256 / 256 / 256 / 256 / 256 / 256 / 256 := by rw [Int.ediv_ediv_of_nonneg (by decide), Int.ediv_ediv_of_nonneg (by decide), Int.ediv_ediv_of_nonneg (by decide), Int.ediv_ediv_of_nonneg (by decide), Int.ediv_ediv_of_nonneg (by decide), Int.ediv_ediv_of_nonneg (by decide)]; rfl
  have l7 : V / 72057594037927936 % 256 = V / 72057594037927936 := by omega
  rw [l7, e7, e6, e5, e4, e3, e2]
  have s1 := Int.mul_ediv_add_emod V 256
  have s2 := Int.mul_ediv_add_emod (V / 256) 256
  have s3 := Int.mul_ediv_add_emod (V / 256 / 256) 256
  have s4 := Int.mul_ediv_add_emod (V / 256 / 256 / 256) 256
  have s5 := Int.mul_ediv_add_emod (V / 256 / 256 / 256 / 256) 256
  have s6 := Int.mul_ediv_add_emod (V / 256 / 256 / 256 / 256 / 256) 256
  have s7 := Int.mul_ediv_add_emod (V / 256 / 256 / 256 / 256 / 256 / 256) 256
  generalize V / 256 / 256 / 256 / 256 / 256 / 256 / 256 = a7 at *
  generalize V / 256 / 256 / 256 / 256 / 256 / 256 % 256 = b6 at *
  generalize V / 256 / 256 / 256 / 256 / 256 / 256 = a6 at *
  generalize V / 256 / 256 / 256 / 256 / 256 % 256 = b5 at *
  generalize V / 256 / 256 / 256 / 256 / 256 = a5 at *
  generalize V / 256 / 256 / 256 / 256 % 256 = b4 at *
  generalize V / 256 / 256 / 256 / 256 = a4 at *
  generalize V / 256 / 256 / 256 % 256 = b3 at *
  generalize V / 256 / 256 / 256 = a3 at *
  generalize V / 256 / 256 % 256 = b2 at *
  generalize V / 256 / 256 = a2 at *
  generalize V / 256 % 256 = b1 at *
  generalize V / 256 = a1 at *
  generalize V % 256 = b0 at *
  clear e2 e3 e4 e5 e6 e7 l7 h
  omega
theorem own_cong {t p z A : Int} (h1 : (t - (p + z)) % 18446744073709551616 = 0) (h2 : (p - A) % 18446744073709551616 = 0) : (t - (A + z)) % 18446744073709551616 = 0 := by omega
theorem own_eq64 {t v V S : Int} (h1 : (t - S) % 18446744073709551616 = 0) (hV : V = v % 18446744073709551616) (hS : V = S) (r1 : -9223372036854775808 ≤ t ∧ t < 9223372036854775808) (r2 : -9223372036854775808 ≤ v ∧ v < 9223372036854775808) : t = v := by omega
theorem own_get8 (v : Int64) : g8 (pb56 v) (pb48 v) (pb40 v) (pb32 v) (pb24 v) (pb16 v) (pb8 v) (pb0 v) = v := by
  have rv := rng64 v
  have y56 : (pb56 v &&& 255).toInt64.toInt = (v.toInt % 18446744073709551616) / (2 ^ 56 : Nat) % 256 := own_pbk v 56 56 (by decide) (by decide)
  have y48 : (pb48 v &&& 255).toInt64.toInt = (v.toInt % 18446744073709551616) / (2 ^ 48 : Nat) % 256 := own_pbk v 48 48 (by decide) (by decide)
  have y40 : (pb40 v &&& 255).toInt64.toInt = (v.toInt % 18446744073709551616) / (2 ^ 40 : Nat) % 256 := own_pbk v 40 40 (by decide) (by decide)
  have y32 : (pb32 v &&& 255).toInt64.toInt = (v.toInt % 18446744073709551616) / (2 ^ 32 : Nat) % 256 := own_pbk v 32 32 (by decide) (by decide)
  have y24 : (pb24 v &&& 255).toInt64.toInt = (v.toInt % 18446744073709551616) / (2 ^ 24 : Nat) % 256 := own_pbk v 24 24 (by decide) (by decide)
  have y16 : (pb16 v &&& 255).toInt64.toInt = (v.toInt % 18446744073709551616) / (2 ^ 16 : Nat) % 256 := own_pbk v 16 16 (by decide) (by decide)
  have y8 : (pb8 v &&& 255).toInt64.toInt = (v.toInt % 18446744073709551616) / (2 ^ 8 : Nat) % 256 := own_pbk v 8 8 (by decide) (by decide)
  have y0 := own_pb0 v
  unfold g8
  generalize (pb56 v &&& 255).toInt64 = z56 at *
  generalize (pb48 v &&& 255).toInt64 = z48 at *
  generalize (pb40 v &&& 255).toInt64 = z40 at *
  generalize (pb32 v &&& 255).toInt64 = z32 at *
  generalize (pb24 v &&& 255).toInt64 = z24 at *
  generalize (pb16 v &&& 255).toInt64 = z16 at *
  generalize (pb8 v &&& 255).toInt64 = z8 at *
  generalize (pb0 v &&& 255).toInt64 = z0 at *
  obtain ⟨V, hV⟩ : ∃ V, V = v.toInt % 18446744073709551616 := ⟨_, rfl⟩
  rw [← hV] at y56 y48 y40 y32 y24 y16 y8 y0
  have hV2 : 0 ≤ V ∧ V < 18446744073709551616 := by omega
  simp only [show ((2 ^ 56 : Nat) : Int) = 72057594037927936 from by decide] at y56
  simp only [show ((2 ^ 48 : Nat) : Int) = 281474976710656 from by decide] at y48
  simp only [show ((2 ^ 40 : Nat) : Int) = 1099511627776 from by decide] at y40
  simp only [show ((2 ^ 32 : Nat) : Int) = 4294967296 from by decide] at y32
  simp only [show ((2 ^ 24 : Nat) : Int) = 16777216 from by decide] at y24
  simp only [show ((2 ^ 16 : Nat) : Int) = 65536 from by decide] at y16
  simp only [show ((2 ^ 8 : Nat) : Int) = 256 from by decide] at y8
  have fin := own_sum V hV2
  rw [← y56, ← y48, ← y40, ← y32, ← y24, ← y16, ← y8, ← y0] at fin
  have b56 : 0 ≤ z56.toInt ∧ z56.toInt < 256 := by omega
  have b48 : 0 ≤ z48.toInt ∧ z48.toInt < 256 := by omega
  have b40 : 0 ≤ z40.toInt ∧ z40.toInt < 256 := by omega
  have b32 : 0 ≤ z32.toInt ∧ z32.toInt < 256 := by omega
  have b24 : 0 ≤ z24.toInt ∧ z24.toInt < 256 := by omega
  have b16 : 0 ≤ z16.toInt ∧ z16.toInt < 256 := by omega
  have b8 : 0 ≤ z8.toInt ∧ z8.toInt < 256 := by omega
  have b0 : 0 ≤ z0.toInt ∧ z0.toInt < 256 := by omega
  clear y56 y48 y40 y32 y24 y16 y8 y0
  have s56 := c_lshl z56 56 56 (by decide)
  generalize z56 <<< ((56 : Int32) &&& 0x3f).toInt64 = w56 at *
  simp only [show ((2 ^ 56 : Nat) : Int) = 72057594037927936 from by decide] at s56
  have r56 := rng64 w56
  have s48 := c_lshl z48 48 48 (by decide)
  generalize z48 <<< ((48 : Int32) &&& 0x3f).toInt64 = w48 at *
  simp only [show ((2 ^ 48 : Nat) : Int) = 281474976710656 from by decide] at s48
  have r48 := rng64 w48
  have s40 := c_lshl z40 40 40 (by decide)
  generalize z40 <<< ((40 : Int32) &&& 0x3f).toInt64 = w40 at *
  simp only [show ((2 ^ 40 : Nat) : Int) = 1099511627776 from by decide] at s40
  have r40 := rng64 w40
  have s32 := c_lshl z32 32 32 (by decide)
  generalize z32 <<< ((32 : Int32) &&& 0x3f).toInt64 = w32 at *
  simp only [show ((2 ^ 32 : Nat) : Int) = 4294967296 from by decide] at s32
  have r32 := rng64 w32
  have s24 := c_lshl z24 24 24 (by decide)
  generalize z24 <<< ((24 : Int32) &&& 0x3f).toInt64 = w24 at *
  simp only [show ((2 ^ 24 : Nat) : Int) = 16777216 from by decide] at s24
  have r24 := rng64 w24
  have s16 := c_lshl z16 16 16 (by decide)
  generalize z16 <<< ((16 : Int32) &&& 0x3f).toInt64 = w16 at *
  simp only [show ((2 ^ 16 : Nat) : Int) = 65536 from by decide] at s16
  have r16 := rng64 w16
  have s8 := c_lshl z8 8 8 (by decide)
  generalize z8 <<< ((8 : Int32) &&& 0x3f).toInt64 = w8 at *
  simp only [show ((2 ^ 8 : Nat) : Int) = 256 from by decide] at s8
  have r8 := rng64 w8
  have e48 : w48.toInt = z48.toInt * 281474976710656 := by clear fin; omega
  have e40 : w40.toInt = z40.toInt * 1099511627776 := by clear fin; omega
  have e32 : w32.toInt = z32.toInt * 4294967296 := by clear fin; omega
  have e24 : w24.toInt = z24.toInt * 16777216 := by clear fin; omega
  have e16 : w16.toInt = z16.toInt * 65536 := by clear fin; omega
  have e8 : w8.toInt = z8.toInt * 256 := by clear fin; omega
  have t56 : (w56.toInt - (z56.toInt * 72057594037927936)) % 18446744073709551616 = 0 := s56
  have m48 : w56.toInt % 72057594037927936 = 0 := by
    have q := t56
    clear fin s56 r56 s48 r48 s40 r40 s32 r32 s24 r24 s16 r16 s8 r8
    omega
  have o48 := c_orL w56 w48 56 (by decide) 72057594037927936 (by decide) m48 (by rw [e48]; omega) (by rw [e48]; omega)
  generalize w56 ||| w48 = p48 at *
  rw [e48] at o48
  have t48 : (p48.toInt - (z56.toInt * 72057594037927936 + z48.toInt * 281474976710656)) % 18446744073709551616 = 0 := own_cong o48 t56
  have m40 : p48.toInt % 281474976710656 = 0 := by
    have q := t48
    clear fin s56 r56 s48 r48 s40 r40 s32 r32 s24 r24 s16 r16 s8 r8
    omega
  have o40 := c_orL p48 w40 48 (by decide) 281474976710656 (by decide) m40 (by rw [e40]; omega) (by rw [e40]; omega)
  generalize p48 ||| w40 = p40 at *
  rw [e40] at o40
  have t40 : (p40.toInt - (z56.toInt * 72057594037927936 + z48.toInt * 281474976710656 + z40.toInt * 1099511627776)) % 18446744073709551616 = 0 := own_cong o40 t48
  have m32 : p40.toInt % 1099511627776 = 0 := by
    have q := t40
    clear fin s56 r56 s48 r48 s40 r40 s32 r32 s24 r24 s16 r16 s8 r8
    omega
  have o32 := c_orL p40 w32 40 (by decide) 1099511627776 (by decide) m32 (by rw [e32]; omega) (by rw [e32]; omega)
  generalize p40 ||| w32 = p32 at *
  rw [e32] at o32
  have t32 : (p32.toInt - (z56.toInt * 72057594037927936 + z48.toInt * 281474976710656 + z40.toInt * 1099511627776 + z32.toInt * 4294967296)) % 18446744073709551616 = 0 := own_cong o32 t40
  have m24 : p32.toInt % 4294967296 = 0 := by
    have q := t32
    clear fin s56 r56 s48 r48 s40 r40 s32 r32 s24 r24 s16 r16 s8 r8
    omega
  have o24 := c_orL p32 w24 32 (by decide) 4294967296 (by decide) m24 (by rw [e24]; omega) (by rw [e24]; omega)
  generalize p32 ||| w24 = p24 at *
  rw [e24] at o24
  have t24 : (p24.toInt - (z56.toInt * 72057594037927936 + z48.toInt * 281474976710656 + z40.toInt * 1099511627776 + z32.toInt * 4294967296 + z24.toInt * 16777216)) % 18446744073709551616 = 0 := own_cong o24 t32
  have m16 : p24.toInt % 16777216 = 0 := by
    have q := t24
    clear fin s56 r56 s48 r48 s40 r40 s32 r32 s24 r24 s16 r16 s8 r8
    omega
  have o16 := c_orL p24 w16 24 (by decide) 16777216 (by decide) m16 (by rw [e16]; omega) (by rw [e16]; omega)
  generalize p24 ||| w16 = p16 at *
  rw [e16] at o16
  have t16 : (p16.toInt - (z56.toInt * 72057594037927936 + z48.toInt * 281474976710656 + z40.toInt * 1099511627776 + z32.toInt * 4294967296 + z24.toInt * 16777216 + z16.toInt * 65536)) % 18446744073709551616 = 0 := own_cong o16 t24
  have m8 : p16.toInt % 65536 = 0 := by
    have q := t16
    clear fin s56 r56 s48 r48 s40 r40 s32 r32 s24 r24 s16 r16 s8 r8
    omega
  have o8 := c_orL p16 w8 16 (by decide) 65536 (by decide) m8 (by rw [e8]; omega) (by rw [e8]; omega)
  generalize p16 ||| w8 = p8 at *
  rw [e8] at o8
  have t8 : (p8.toInt - (z56.toInt * 72057594037927936 + z48.toInt * 281474976710656 + z40.toInt * 1099511627776 + z32.toInt * 4294967296 + z24.toInt * 16777216 + z16.toInt * 65536 + z8.toInt * 256)) % 18446744073709551616 = 0 := own_cong o8 t16
  have m0 : p8.toInt % 256 = 0 := by
    have q := t8
    clear fin s56 r56 s48 r48 s40 r40 s32 r32 s24 r24 s16 r16 s8 r8
    omega
  have o0 := c_orL p8 z0 8 (by decide) 256 (by decide) m0 (by omega) (by omega)
  generalize p8 ||| z0 = t at *
  have rt := rng64 t
  have t0 : (t.toInt - (z56.toInt * 72057594037927936 + z48.toInt * 281474976710656 + z40.toInt * 1099511627776 + z32.toInt * 4294967296 + z24.toInt * 16777216 + z16.toInt * 65536 + z8.toInt * 256 + z0.toInt)) % 18446744073709551616 = 0 := own_cong o0 t8
  apply Int64.toInt_inj.mp
  exact own_eq64 t0 hV fin rt rv
theorem own_xb (u w : Int32) : xb (u.toInt8.toInt32) (w.toInt8.toInt32) = (u ^^^ w).toInt8.toInt32 := by
  apply Int32.toBitVec_inj.mp
  apply BitVec.eq_of_getLsbD_eq
  intro i hi
  simp only [xb, Int32.toBitVec_xor, Int8.toBitVec_toInt32, Int32.toBitVec_toInt8, BitVec.getLsbD_signExtend, BitVec.getLsbD_setWidth, BitVec.getLsbD_xor, BitVec.msb_setWidth, BitVec.msb_eq_getLsbD_last]
  by_cases h : i < 8 <;> simp [h, hi]
theorem own_x56 (u w : Int64) : xb (pb56 u) (pb56 w) = pb56 (u ^^^ w) := by
  unfold pb56
  rw [own_xb]
  congr 2
  apply Int32.toBitVec_inj.mp
  apply BitVec.eq_of_getLsbD_eq
  intro i hi
  simp [BitVec.getLsbD_signExtend, BitVec.getLsbD_ushiftRight]
  have h64 : i < 64 := by omega
  simp only [hi, h64, decide_true, Bool.true_and]
theorem own_x48 (u w : Int64) : xb (pb48 u) (pb48 w) = pb48 (u ^^^ w) := by
  unfold pb48
  rw [own_xb]
  congr 2
  apply Int32.toBitVec_inj.mp
  apply BitVec.eq_of_getLsbD_eq
  intro i hi
  simp [BitVec.getLsbD_signExtend, BitVec.getLsbD_ushiftRight]
  have h64 : i < 64 := by omega
  simp only [hi, h64, decide_true, Bool.true_and]
theorem own_x40 (u w : Int64) : xb (pb40 u) (pb40 w) = pb40 (u ^^^ w) := by
  unfold pb40
  rw [own_xb]
  congr 2
  apply Int32.toBitVec_inj.mp
  apply BitVec.eq_of_getLsbD_eq
  intro i hi
  simp [BitVec.getLsbD_signExtend, BitVec.getLsbD_ushiftRight]
  have h64 : i < 64 := by omega
  simp only [hi, h64, decide_true, Bool.true_and]
theorem own_x32 (u w : Int64) : xb (pb32 u) (pb32 w) = pb32 (u ^^^ w) := by
  unfold pb32
  rw [own_xb]
  congr 2
  apply Int32.toBitVec_inj.mp
  apply BitVec.eq_of_getLsbD_eq
  intro i hi
  simp [BitVec.getLsbD_signExtend, BitVec.getLsbD_ushiftRight]
  have h64 : i < 64 := by omega
  simp only [hi, h64, decide_true, Bool.true_and]
theorem own_x24 (u w : Int64) : xb (pb24 u) (pb24 w) = pb24 (u ^^^ w) := by
  unfold pb24
  rw [own_xb]
  congr 2
  apply Int32.toBitVec_inj.mp
  apply BitVec.eq_of_getLsbD_eq
  intro i hi
  simp [BitVec.getLsbD_signExtend, BitVec.getLsbD_ushiftRight]
  have h64 : i < 64 := by omega
  simp only [hi, h64, decide_true, Bool.true_and]
theorem own_x16 (u w : Int64) : xb (pb16 u) (pb16 w) = pb16 (u ^^^ w) := by
  unfold pb16
  rw [own_xb]
  congr 2
  apply Int32.toBitVec_inj.mp
  apply BitVec.eq_of_getLsbD_eq
  intro i hi
  simp [BitVec.getLsbD_signExtend, BitVec.getLsbD_ushiftRight]
  have h64 : i < 64 := by omega
  simp only [hi, h64, decide_true, Bool.true_and]
theorem own_x8 (u w : Int64) : xb (pb8 u) (pb8 w) = pb8 (u ^^^ w) := by
  unfold pb8
  rw [own_xb]
  congr 2
  apply Int32.toBitVec_inj.mp
  apply BitVec.eq_of_getLsbD_eq
  intro i hi
  simp [BitVec.getLsbD_signExtend, BitVec.getLsbD_ushiftRight]
  have h64 : i < 64 := by omega
  simp only [hi, h64, decide_true, Bool.true_and]
theorem own_x0 (u w : Int64) : xb (pb0 u) (pb0 w) = pb0 (u ^^^ w) := by
  unfold pb0
  rw [own_xb]
  congr 2
  apply Int32.toBitVec_inj.mp
  simp

set_option maxRecDepth 65536 in
set_option maxHeartbeats 40000000 in
theorem met_put_0_0 {Z : State} (HT : Tb Z) {F : Hp} (a : Addr) (vv : Int64) (x0 x1 x2 x3 x4 x5 x6 x7 x8 x9 x10 x11 x12 x13 x14 x15 : Int32)  : Met Z y_1 method_3_code 4 none ({ frames := 0, cells := 0, slots := 0, locals := 0 } : Room) [(.ref a), (.int (0 : Int32)), (.long vv)] ((a, ArI Z .byte ([x0, x1, x2, x3, x4, x5, x6, x7, x8, x9, x10, x11, x12, x13, x14, x15] : List Int32)) :: F) (fun v M' => v = none ∧ M' = ((a, ArI Z .byte ([(pb56 vv), (pb48 vv), (pb40 vv), (pb32 vv), (pb24 vv), (pb16 vv), (pb8 vv), (pb0 vv), x8, x9, x10, x11, x12, x13, x14, x15] : List Int32)) :: F)) := by
  refine Met.of HT pl_1 (Ls := #[.val (.ref a), .val (.int (0 : Int32)), .val (.long vv), .second]) (fun m => by first | (simp [entryFrame, mkF, argsToLocals, Value.category]; done) | rfl) (fun k H => ?_)
  refine s_aloadn H d1_0 rfl rfl (pc' := 1) rfl ?_
  refine s_iloadn H d1_1 rfl (pc' := 2) rfl ?_
  refine s_lloadn H d1_2 rfl (pc' := 3) rfl ?_
  refine s_bipush H d1_3 (z := (56 : Int32)) (by decide) (pc' := 5) rfl ?_
  refine s_lushr H d1_5 (pc' := 6) rfl ?_
  refine s_l2i H d1_6 (pc' := 7) rfl ?_
  refine s_i2b H d1_7 (pc' := 8) rfl ?_
  refine s_bastore H d1_8 (i := 0) rfl (by decide) (jn := 0) (by decide) (Nat.le_of_ble_eq_true rfl) (x := (pb56 vv)) (nar_i8 _).symm (pc' := 9) rfl ?_
  show Go Z k 0 0 ((a, ArI Z .byte ([(pb56 vv), x1, x2, x3, x4, x5, x6, x7, x8, x9, x10, x11, x12, x13, x14, x15] : List Int32)) :: F) 9 #[.val (.ref a), .val (.int (0 : Int32)), .val (.long vv), .second] []
  refine s_aloadn H d1_9 rfl rfl (pc' := 10) rfl ?_
  refine s_iloadn H d1_10 rfl (pc' := 11) rfl ?_
  refine s_iconst H d1_11 (z := (1 : Int32)) (by decide) (pc' := 12) rfl ?_
  refine s_iadd H d1_12 (pc' := 13) rfl ?_
  refine s_lloadn H d1_13 rfl (pc' := 14) rfl ?_
  refine s_bipush H d1_14 (z := (48 : Int32)) (by decide) (pc' := 16) rfl ?_
  refine s_lushr H d1_16 (pc' := 17) rfl ?_
  refine s_l2i H d1_17 (pc' := 18) rfl ?_
  refine s_i2b H d1_18 (pc' := 19) rfl ?_
  refine s_bastore H d1_19 (i := 0) rfl (by decide) (jn := 1) (by decide) (Nat.le_of_ble_eq_true rfl) (x := (pb48 vv)) (nar_i8 _).symm (pc' := 20) rfl ?_
  show Go Z k 0 0 ((a, ArI Z .byte ([(pb56 vv), (pb48 vv), x2, x3, x4, x5, x6, x7, x8, x9, x10, x11, x12, x13, x14, x15] : List Int32)) :: F) 20 #[.val (.ref a), .val (.int (0 : Int32)), .val (.long vv), .second] []
  refine s_aloadn H d1_20 rfl rfl (pc' := 21) rfl ?_
  refine s_iloadn H d1_21 rfl (pc' := 22) rfl ?_
  refine s_iconst H d1_22 (z := (2 : Int32)) (by decide) (pc' := 23) rfl ?_
  refine s_iadd H d1_23 (pc' := 24) rfl ?_
  refine s_lloadn H d1_24 rfl (pc' := 25) rfl ?_
  refine s_bipush H d1_25 (z := (40 : Int32)) (by decide) (pc' := 27) rfl ?_
  refine s_lushr H d1_27 (pc' := 28) rfl ?_
  refine s_l2i H d1_28 (pc' := 29) rfl ?_
  refine s_i2b H d1_29 (pc' := 30) rfl ?_
  refine s_bastore H d1_30 (i := 0) rfl (by decide) (jn := 2) (by decide) (Nat.le_of_ble_eq_true rfl) (x := (pb40 vv)) (nar_i8 _).symm (pc' := 31) rfl ?_
  show Go Z k 0 0 ((a, ArI Z .byte ([(pb56 vv), (pb48 vv), (pb40 vv), x3, x4, x5, x6, x7, x8, x9, x10, x11, x12, x13, x14, x15] : List Int32)) :: F) 31 #[.val (.ref a), .val (.int (0 : Int32)), .val (.long vv), .second] []
  refine s_aloadn H d1_31 rfl rfl (pc' := 32) rfl ?_
  refine s_iloadn H d1_32 rfl (pc' := 33) rfl ?_
  refine s_iconst H d1_33 (z := (3 : Int32)) (by decide) (pc' := 34) rfl ?_
  refine s_iadd H d1_34 (pc' := 35) rfl ?_
  refine s_lloadn H d1_35 rfl (pc' := 36) rfl ?_
  refine s_bipush H d1_36 (z := (32 : Int32)) (by decide) (pc' := 38) rfl ?_
  refine s_lushr H d1_38 (pc' := 39) rfl ?_
  refine s_l2i H d1_39 (pc' := 40) rfl ?_
  refine s_i2b H d1_40 (pc' := 41) rfl ?_
  refine s_bastore H d1_41 (i := 0) rfl (by decide) (jn := 3) (by decide) (Nat.le_of_ble_eq_true rfl) (x := (pb32 vv)) (nar_i8 _).symm (pc' := 42) rfl ?_
  show Go Z k 0 0 ((a, ArI Z .byte ([(pb56 vv), (pb48 vv), (pb40 vv), (pb32 vv), x4, x5, x6, x7, x8, x9, x10, x11, x12, x13, x14, x15] : List Int32)) :: F) 42 #[.val (.ref a), .val (.int (0 : Int32)), .val (.long vv), .second] []
  refine s_aloadn H d1_42 rfl rfl (pc' := 43) rfl ?_
  refine s_iloadn H d1_43 rfl (pc' := 44) rfl ?_
  refine s_iconst H d1_44 (z := (4 : Int32)) (by decide) (pc' := 45) rfl ?_
  refine s_iadd H d1_45 (pc' := 46) rfl ?_
  refine s_lloadn H d1_46 rfl (pc' := 47) rfl ?_
  refine s_bipush H d1_47 (z := (24 : Int32)) (by decide) (pc' := 49) rfl ?_
  refine s_lushr H d1_49 (pc' := 50) rfl ?_
  refine s_l2i H d1_50 (pc' := 51) rfl ?_
  refine s_i2b H d1_51 (pc' := 52) rfl ?_
  refine s_bastore H d1_52 (i := 0) rfl (by decide) (jn := 4) (by decide) (Nat.le_of_ble_eq_true rfl) (x := (pb24 vv)) (nar_i8 _).symm (pc' := 53) rfl ?_
  show Go Z k 0 0 ((a, ArI Z .byte ([(pb56 vv), (pb48 vv), (pb40 vv), (pb32 vv), (pb24 vv), x5, x6, x7, x8, x9, x10, x11, x12, x13, x14, x15] : List Int32)) :: F) 53 #[.val (.ref a), .val (.int (0 : Int32)), .val (.long vv), .second] []
  refine s_aloadn H d1_53 rfl rfl (pc' := 54) rfl ?_
  refine s_iloadn H d1_54 rfl (pc' := 55) rfl ?_
  refine s_iconst H d1_55 (z := (5 : Int32)) (by decide) (pc' := 56) rfl ?_
  refine s_iadd H d1_56 (pc' := 57) rfl ?_
  refine s_lloadn H d1_57 rfl (pc' := 58) rfl ?_
  refine s_bipush H d1_58 (z := (16 : Int32)) (by decide) (pc' := 60) rfl ?_
  refine s_lushr H d1_60 (pc' := 61) rfl ?_
  refine s_l2i H d1_61 (pc' := 62) rfl ?_
  refine s_i2b H d1_62 (pc' := 63) rfl ?_
  refine s_bastore H d1_63 (i := 0) rfl (by decide) (jn := 5) (by decide) (Nat.le_of_ble_eq_true rfl) (x := (pb16 vv)) (nar_i8 _).symm (pc' := 64) rfl ?_
  show Go Z k 0 0 ((a, ArI Z .byte ([(pb56 vv), (pb48 vv), (pb40 vv), (pb32 vv), (pb24 vv), (pb16 vv), x6, x7, x8, x9, x10, x11, x12, x13, x14, x15] : List Int32)) :: F) 64 #[.val (.ref a), .val (.int (0 : Int32)), .val (.long vv), .second] []
  refine s_aloadn H d1_64 rfl rfl (pc' := 65) rfl ?_
  refine s_iloadn H d1_65 rfl (pc' := 66) rfl ?_
  refine s_bipush H d1_66 (z := (6 : Int32)) (by decide) (pc' := 68) rfl ?_
  refine s_iadd H d1_68 (pc' := 69) rfl ?_
  refine s_lloadn H d1_69 rfl (pc' := 70) rfl ?_
  refine s_bipush H d1_70 (z := (8 : Int32)) (by decide) (pc' := 72) rfl ?_
  refine s_lushr H d1_72 (pc' := 73) rfl ?_
  refine s_l2i H d1_73 (pc' := 74) rfl ?_
  refine s_i2b H d1_74 (pc' := 75) rfl ?_
  refine s_bastore H d1_75 (i := 0) rfl (by decide) (jn := 6) (by decide) (Nat.le_of_ble_eq_true rfl) (x := (pb8 vv)) (nar_i8 _).symm (pc' := 76) rfl ?_
  show Go Z k 0 0 ((a, ArI Z .byte ([(pb56 vv), (pb48 vv), (pb40 vv), (pb32 vv), (pb24 vv), (pb16 vv), (pb8 vv), x7, x8, x9, x10, x11, x12, x13, x14, x15] : List Int32)) :: F) 76 #[.val (.ref a), .val (.int (0 : Int32)), .val (.long vv), .second] []
  refine s_aloadn H d1_76 rfl rfl (pc' := 77) rfl ?_
  refine s_iloadn H d1_77 rfl (pc' := 78) rfl ?_
  refine s_bipush H d1_78 (z := (7 : Int32)) (by decide) (pc' := 80) rfl ?_
  refine s_iadd H d1_80 (pc' := 81) rfl ?_
  refine s_lloadn H d1_81 rfl (pc' := 82) rfl ?_
  refine s_l2i H d1_82 (pc' := 83) rfl ?_
  refine s_i2b H d1_83 (pc' := 84) rfl ?_
  refine s_bastore H d1_84 (i := 0) rfl (by decide) (jn := 7) (by decide) (Nat.le_of_ble_eq_true rfl) (x := (pb0 vv)) (nar_i8 _).symm (pc' := 85) rfl ?_
  show Go Z k 0 0 ((a, ArI Z .byte ([(pb56 vv), (pb48 vv), (pb40 vv), (pb32 vv), (pb24 vv), (pb16 vv), (pb8 vv), (pb0 vv), x8, x9, x10, x11, x12, x13, x14, x15] : List Int32)) :: F) 85 #[.val (.ref a), .val (.int (0 : Int32)), .val (.long vv), .second] []
  exact s_vret H d1_85 (by decide) (by decide) (⟨rfl, rfl⟩)
set_option maxRecDepth 65536 in
set_option maxHeartbeats 40000000 in
theorem met_put_0_1 {Z : State} (HT : Tb Z) {F : Hp} (a : Addr) (e : Addr) (PE : Cell → Prop) (vv : Int64) (x0 x1 x2 x3 x4 x5 x6 x7 x8 x9 x10 x11 x12 x13 x14 x15 : Int32)  : Met Z y_1 method_3_code 4 none ({ frames := 0, cells := 0, slots := 0, locals := 0 } : Room) [(.ref a), (.int (0 : Int32)), (.long vv)] ((e, PE) :: (a, ArI Z .byte ([x0, x1, x2, x3, x4, x5, x6, x7, x8, x9, x10, x11, x12, x13, x14, x15] : List Int32)) :: F) (fun v M' => v = none ∧ M' = ((e, PE) :: (a, ArI Z .byte ([(pb56 vv), (pb48 vv), (pb40 vv), (pb32 vv), (pb24 vv), (pb16 vv), (pb8 vv), (pb0 vv), x8, x9, x10, x11, x12, x13, x14, x15] : List Int32)) :: F)) := by
  refine Met.of HT pl_1 (Ls := #[.val (.ref a), .val (.int (0 : Int32)), .val (.long vv), .second]) (fun m => by first | (simp [entryFrame, mkF, argsToLocals, Value.category]; done) | rfl) (fun k H => ?_)
  refine s_aloadn H d1_0 rfl rfl (pc' := 1) rfl ?_
  refine s_iloadn H d1_1 rfl (pc' := 2) rfl ?_
  refine s_lloadn H d1_2 rfl (pc' := 3) rfl ?_
  refine s_bipush H d1_3 (z := (56 : Int32)) (by decide) (pc' := 5) rfl ?_
  refine s_lushr H d1_5 (pc' := 6) rfl ?_
  refine s_l2i H d1_6 (pc' := 7) rfl ?_
  refine s_i2b H d1_7 (pc' := 8) rfl ?_
  refine s_bastore H d1_8 (i := 1) rfl (by decide) (jn := 0) (by decide) (Nat.le_of_ble_eq_true rfl) (x := (pb56 vv)) (nar_i8 _).symm (pc' := 9) rfl ?_
  show Go Z k 0 0 ((e, PE) :: (a, ArI Z .byte ([(pb56 vv), x1, x2, x3, x4, x5, x6, x7, x8, x9, x10, x11, x12, x13, x14, x15] : List Int32)) :: F) 9 #[.val (.ref a), .val (.int (0 : Int32)), .val (.long vv), .second] []
  refine s_aloadn H d1_9 rfl rfl (pc' := 10) rfl ?_
  refine s_iloadn H d1_10 rfl (pc' := 11) rfl ?_
  refine s_iconst H d1_11 (z := (1 : Int32)) (by decide) (pc' := 12) rfl ?_
  refine s_iadd H d1_12 (pc' := 13) rfl ?_
  refine s_lloadn H d1_13 rfl (pc' := 14) rfl ?_
  refine s_bipush H d1_14 (z := (48 : Int32)) (by decide) (pc' := 16) rfl ?_
  refine s_lushr H d1_16 (pc' := 17) rfl ?_
  refine s_l2i H d1_17 (pc' := 18) rfl ?_
  refine s_i2b H d1_18 (pc' := 19) rfl ?_
  refine s_bastore H d1_19 (i := 1) rfl (by decide) (jn := 1) (by decide) (Nat.le_of_ble_eq_true rfl) (x := (pb48 vv)) (nar_i8 _).symm (pc' := 20) rfl ?_
  show Go Z k 0 0 ((e, PE) :: (a, ArI Z .byte ([(pb56 vv), (pb48 vv), x2, x3, x4, x5, x6, x7, x8, x9, x10, x11, x12, x13, x14, x15] : List Int32)) :: F) 20 #[.val (.ref a), .val (.int (0 : Int32)), .val (.long vv), .second] []
  refine s_aloadn H d1_20 rfl rfl (pc' := 21) rfl ?_
  refine s_iloadn H d1_21 rfl (pc' := 22) rfl ?_
  refine s_iconst H d1_22 (z := (2 : Int32)) (by decide) (pc' := 23) rfl ?_
  refine s_iadd H d1_23 (pc' := 24) rfl ?_
  refine s_lloadn H d1_24 rfl (pc' := 25) rfl ?_
  refine s_bipush H d1_25 (z := (40 : Int32)) (by decide) (pc' := 27) rfl ?_
  refine s_lushr H d1_27 (pc' := 28) rfl ?_
  refine s_l2i H d1_28 (pc' := 29) rfl ?_
  refine s_i2b H d1_29 (pc' := 30) rfl ?_
  refine s_bastore H d1_30 (i := 1) rfl (by decide) (jn := 2) (by decide) (Nat.le_of_ble_eq_true rfl) (x := (pb40 vv)) (nar_i8 _).symm (pc' := 31) rfl ?_
  show Go Z k 0 0 ((e, PE) :: (a, ArI Z .byte ([(pb56 vv), (pb48 vv), (pb40 vv), x3, x4, x5, x6, x7, x8, x9, x10, x11, x12, x13, x14, x15] : List Int32)) :: F) 31 #[.val (.ref a), .val (.int (0 : Int32)), .val (.long vv), .second] []
  refine s_aloadn H d1_31 rfl rfl (pc' := 32) rfl ?_
  refine s_iloadn H d1_32 rfl (pc' := 33) rfl ?_
  refine s_iconst H d1_33 (z := (3 : Int32)) (by decide) (pc' := 34) rfl ?_
  refine s_iadd H d1_34 (pc' := 35) rfl ?_
  refine s_lloadn H d1_35 rfl (pc' := 36) rfl ?_
  refine s_bipush H d1_36 (z := (32 : Int32)) (by decide) (pc' := 38) rfl ?_
  refine s_lushr H d1_38 (pc' := 39) rfl ?_
  refine s_l2i H d1_39 (pc' := 40) rfl ?_
  refine s_i2b H d1_40 (pc' := 41) rfl ?_
  refine s_bastore H d1_41 (i := 1) rfl (by decide) (jn := 3) (by decide) (Nat.le_of_ble_eq_true rfl) (x := (pb32 vv)) (nar_i8 _).symm (pc' := 42) rfl ?_
  show Go Z k 0 0 ((e, PE) :: (a, ArI Z .byte ([(pb56 vv), (pb48 vv), (pb40 vv), (pb32 vv), x4, x5, x6, x7, x8, x9, x10, x11, x12, x13, x14, x15] : List Int32)) :: F) 42 #[.val (.ref a), .val (.int (0 : Int32)), .val (.long vv), .second] []
  refine s_aloadn H d1_42 rfl rfl (pc' := 43) rfl ?_
  refine s_iloadn H d1_43 rfl (pc' := 44) rfl ?_
  refine s_iconst H d1_44 (z := (4 : Int32)) (by decide) (pc' := 45) rfl ?_
  refine s_iadd H d1_45 (pc' := 46) rfl ?_
  refine s_lloadn H d1_46 rfl (pc' := 47) rfl ?_
  refine s_bipush H d1_47 (z := (24 : Int32)) (by decide) (pc' := 49) rfl ?_
  refine s_lushr H d1_49 (pc' := 50) rfl ?_
  refine s_l2i H d1_50 (pc' := 51) rfl ?_
  refine s_i2b H d1_51 (pc' := 52) rfl ?_
  refine s_bastore H d1_52 (i := 1) rfl (by decide) (jn := 4) (by decide) (Nat.le_of_ble_eq_true rfl) (x := (pb24 vv)) (nar_i8 _).symm (pc' := 53) rfl ?_
  show Go Z k 0 0 ((e, PE) :: (a, ArI Z .byte ([(pb56 vv), (pb48 vv), (pb40 vv), (pb32 vv), (pb24 vv), x5, x6, x7, x8, x9, x10, x11, x12, x13, x14, x15] : List Int32)) :: F) 53 #[.val (.ref a), .val (.int (0 : Int32)), .val (.long vv), .second] []
  refine s_aloadn H d1_53 rfl rfl (pc' := 54) rfl ?_
  refine s_iloadn H d1_54 rfl (pc' := 55) rfl ?_
  refine s_iconst H d1_55 (z := (5 : Int32)) (by decide) (pc' := 56) rfl ?_
  refine s_iadd H d1_56 (pc' := 57) rfl ?_
  refine s_lloadn H d1_57 rfl (pc' := 58) rfl ?_
  refine s_bipush H d1_58 (z := (16 : Int32)) (by decide) (pc' := 60) rfl ?_
  refine s_lushr H d1_60 (pc' := 61) rfl ?_
  refine s_l2i H d1_61 (pc' := 62) rfl ?_
  refine s_i2b H d1_62 (pc' := 63) rfl ?_
  refine s_bastore H d1_63 (i := 1) rfl (by decide) (jn := 5) (by decide) (Nat.le_of_ble_eq_true rfl) (x := (pb16 vv)) (nar_i8 _).symm (pc' := 64) rfl ?_
  show Go Z k 0 0 ((e, PE) :: (a, ArI Z .byte ([(pb56 vv), (pb48 vv), (pb40 vv), (pb32 vv), (pb24 vv), (pb16 vv), x6, x7, x8, x9, x10, x11, x12, x13, x14, x15] : List Int32)) :: F) 64 #[.val (.ref a), .val (.int (0 : Int32)), .val (.long vv), .second] []
  refine s_aloadn H d1_64 rfl rfl (pc' := 65) rfl ?_
  refine s_iloadn H d1_65 rfl (pc' := 66) rfl ?_
  refine s_bipush H d1_66 (z := (6 : Int32)) (by decide) (pc' := 68) rfl ?_
  refine s_iadd H d1_68 (pc' := 69) rfl ?_
  refine s_lloadn H d1_69 rfl (pc' := 70) rfl ?_
  refine s_bipush H d1_70 (z := (8 : Int32)) (by decide) (pc' := 72) rfl ?_
  refine s_lushr H d1_72 (pc' := 73) rfl ?_
  refine s_l2i H d1_73 (pc' := 74) rfl ?_
  refine s_i2b H d1_74 (pc' := 75) rfl ?_
  refine s_bastore H d1_75 (i := 1) rfl (by decide) (jn := 6) (by decide) (Nat.le_of_ble_eq_true rfl) (x := (pb8 vv)) (nar_i8 _).symm (pc' := 76) rfl ?_
  show Go Z k 0 0 ((e, PE) :: (a, ArI Z .byte ([(pb56 vv), (pb48 vv), (pb40 vv), (pb32 vv), (pb24 vv), (pb16 vv), (pb8 vv), x7, x8, x9, x10, x11, x12, x13, x14, x15] : List Int32)) :: F) 76 #[.val (.ref a), .val (.int (0 : Int32)), .val (.long vv), .second] []
  refine s_aloadn H d1_76 rfl rfl (pc' := 77) rfl ?_
  refine s_iloadn H d1_77 rfl (pc' := 78) rfl ?_
  refine s_bipush H d1_78 (z := (7 : Int32)) (by decide) (pc' := 80) rfl ?_
  refine s_iadd H d1_80 (pc' := 81) rfl ?_
  refine s_lloadn H d1_81 rfl (pc' := 82) rfl ?_
  refine s_l2i H d1_82 (pc' := 83) rfl ?_
  refine s_i2b H d1_83 (pc' := 84) rfl ?_
  refine s_bastore H d1_84 (i := 1) rfl (by decide) (jn := 7) (by decide) (Nat.le_of_ble_eq_true rfl) (x := (pb0 vv)) (nar_i8 _).symm (pc' := 85) rfl ?_
  show Go Z k 0 0 ((e, PE) :: (a, ArI Z .byte ([(pb56 vv), (pb48 vv), (pb40 vv), (pb32 vv), (pb24 vv), (pb16 vv), (pb8 vv), (pb0 vv), x8, x9, x10, x11, x12, x13, x14, x15] : List Int32)) :: F) 85 #[.val (.ref a), .val (.int (0 : Int32)), .val (.long vv), .second] []
  exact s_vret H d1_85 (by decide) (by decide) (⟨rfl, rfl⟩)
set_option maxRecDepth 65536 in
set_option maxHeartbeats 40000000 in
theorem met_put_8_0 {Z : State} (HT : Tb Z) {F : Hp} (a : Addr) (vv : Int64) (x0 x1 x2 x3 x4 x5 x6 x7 x8 x9 x10 x11 x12 x13 x14 x15 : Int32)  : Met Z y_1 method_3_code 4 none ({ frames := 0, cells := 0, slots := 0, locals := 0 } : Room) [(.ref a), (.int (8 : Int32)), (.long vv)] ((a, ArI Z .byte ([x0, x1, x2, x3, x4, x5, x6, x7, x8, x9, x10, x11, x12, x13, x14, x15] : List Int32)) :: F) (fun v M' => v = none ∧ M' = ((a, ArI Z .byte ([x0, x1, x2, x3, x4, x5, x6, x7, (pb56 vv), (pb48 vv), (pb40 vv), (pb32 vv), (pb24 vv), (pb16 vv), (pb8 vv), (pb0 vv)] : List Int32)) :: F)) := by
  refine Met.of HT pl_1 (Ls := #[.val (.ref a), .val (.int (8 : Int32)), .val (.long vv), .second]) (fun m => by first | (simp [entryFrame, mkF, argsToLocals, Value.category]; done) | rfl) (fun k H => ?_)
  refine s_aloadn H d1_0 rfl rfl (pc' := 1) rfl ?_
  refine s_iloadn H d1_1 rfl (pc' := 2) rfl ?_
  refine s_lloadn H d1_2 rfl (pc' := 3) rfl ?_
  refine s_bipush H d1_3 (z := (56 : Int32)) (by decide) (pc' := 5) rfl ?_
  refine s_lushr H d1_5 (pc' := 6) rfl ?_
  refine s_l2i H d1_6 (pc' := 7) rfl ?_
  refine s_i2b H d1_7 (pc' := 8) rfl ?_
  refine s_bastore H d1_8 (i := 0) rfl (by decide) (jn := 8) (by decide) (Nat.le_of_ble_eq_true rfl) (x := (pb56 vv)) (nar_i8 _).symm (pc' := 9) rfl ?_
  show Go Z k 0 0 ((a, ArI Z .byte ([x0, x1, x2, x3, x4, x5, x6, x7, (pb56 vv), x9, x10, x11, x12, x13, x14, x15] : List Int32)) :: F) 9 #[.val (.ref a), .val (.int (8 : Int32)), .val (.long vv), .second] []
  refine s_aloadn H d1_9 rfl rfl (pc' := 10) rfl ?_
  refine s_iloadn H d1_10 rfl (pc' := 11) rfl ?_
  refine s_iconst H d1_11 (z := (1 : Int32)) (by decide) (pc' := 12) rfl ?_
  refine s_iadd H d1_12 (pc' := 13) rfl ?_
  refine s_lloadn H d1_13 rfl (pc' := 14) rfl ?_
  refine s_bipush H d1_14 (z := (48 : Int32)) (by decide) (pc' := 16) rfl ?_
  refine s_lushr H d1_16 (pc' := 17) rfl ?_
  refine s_l2i H d1_17 (pc' := 18) rfl ?_
  refine s_i2b H d1_18 (pc' := 19) rfl ?_
  refine s_bastore H d1_19 (i := 0) rfl (by decide) (jn := 9) (by decide) (Nat.le_of_ble_eq_true rfl) (x := (pb48 vv)) (nar_i8 _).symm (pc' := 20) rfl ?_
  show Go Z k 0 0 ((a, ArI Z .byte ([x0, x1, x2, x3, x4, x5, x6, x7, (pb56 vv), (pb48 vv), x10, x11, x12, x13, x14, x15] : List Int32)) :: F) 20 #[.val (.ref a), .val (.int (8 : Int32)), .val (.long vv), .second] []
  refine s_aloadn H d1_20 rfl rfl (pc' := 21) rfl ?_
  refine s_iloadn H d1_21 rfl (pc' := 22) rfl ?_
  refine s_iconst H d1_22 (z := (2 : Int32)) (by decide) (pc' := 23) rfl ?_
  refine s_iadd H d1_23 (pc' := 24) rfl ?_
  refine s_lloadn H d1_24 rfl (pc' := 25) rfl ?_
  refine s_bipush H d1_25 (z := (40 : Int32)) (by decide) (pc' := 27) rfl ?_
  refine s_lushr H d1_27 (pc' := 28) rfl ?_
  refine s_l2i H d1_28 (pc' := 29) rfl ?_
  refine s_i2b H d1_29 (pc' := 30) rfl ?_
  refine s_bastore H d1_30 (i := 0) rfl (by decide) (jn := 10) (by decide) (Nat.le_of_ble_eq_true rfl) (x := (pb40 vv)) (nar_i8 _).symm (pc' := 31) rfl ?_
  show Go Z k 0 0 ((a, ArI Z .byte ([x0, x1, x2, x3, x4, x5, x6, x7, (pb56 vv), (pb48 vv), (pb40 vv), x11, x12, x13, x14, x15] : List Int32)) :: F) 31 #[.val (.ref a), .val (.int (8 : Int32)), .val (.long vv), .second] []
  refine s_aloadn H d1_31 rfl rfl (pc' := 32) rfl ?_
  refine s_iloadn H d1_32 rfl (pc' := 33) rfl ?_
  refine s_iconst H d1_33 (z := (3 : Int32)) (by decide) (pc' := 34) rfl ?_
  refine s_iadd H d1_34 (pc' := 35) rfl ?_
  refine s_lloadn H d1_35 rfl (pc' := 36) rfl ?_
  refine s_bipush H d1_36 (z := (32 : Int32)) (by decide) (pc' := 38) rfl ?_
  refine s_lushr H d1_38 (pc' := 39) rfl ?_
  refine s_l2i H d1_39 (pc' := 40) rfl ?_
  refine s_i2b H d1_40 (pc' := 41) rfl ?_
  refine s_bastore H d1_41 (i := 0) rfl (by decide) (jn := 11) (by decide) (Nat.le_of_ble_eq_true rfl) (x := (pb32 vv)) (nar_i8 _).symm (pc' := 42) rfl ?_
  show Go Z k 0 0 ((a, ArI Z .byte ([x0, x1, x2, x3, x4, x5, x6, x7, (pb56 vv), (pb48 vv), (pb40 vv), (pb32 vv), x12, x13, x14, x15] : List Int32)) :: F) 42 #[.val (.ref a), .val (.int (8 : Int32)), .val (.long vv), .second] []
  refine s_aloadn H d1_42 rfl rfl (pc' := 43) rfl ?_
  refine s_iloadn H d1_43 rfl (pc' := 44) rfl ?_
  refine s_iconst H d1_44 (z := (4 : Int32)) (by decide) (pc' := 45) rfl ?_
  refine s_iadd H d1_45 (pc' := 46) rfl ?_
  refine s_lloadn H d1_46 rfl (pc' := 47) rfl ?_
  refine s_bipush H d1_47 (z := (24 : Int32)) (by decide) (pc' := 49) rfl ?_
  refine s_lushr H d1_49 (pc' := 50) rfl ?_
  refine s_l2i H d1_50 (pc' := 51) rfl ?_
  refine s_i2b H d1_51 (pc' := 52) rfl ?_
  refine s_bastore H d1_52 (i := 0) rfl (by decide) (jn := 12) (by decide) (Nat.le_of_ble_eq_true rfl) (x := (pb24 vv)) (nar_i8 _).symm (pc' := 53) rfl ?_
  show Go Z k 0 0 ((a, ArI Z .byte ([x0, x1, x2, x3, x4, x5, x6, x7, (pb56 vv), (pb48 vv), (pb40 vv), (pb32 vv), (pb24 vv), x13, x14, x15] : List Int32)) :: F) 53 #[.val (.ref a), .val (.int (8 : Int32)), .val (.long vv), .second] []
  refine s_aloadn H d1_53 rfl rfl (pc' := 54) rfl ?_
  refine s_iloadn H d1_54 rfl (pc' := 55) rfl ?_
  refine s_iconst H d1_55 (z := (5 : Int32)) (by decide) (pc' := 56) rfl ?_
  refine s_iadd H d1_56 (pc' := 57) rfl ?_
  refine s_lloadn H d1_57 rfl (pc' := 58) rfl ?_
  refine s_bipush H d1_58 (z := (16 : Int32)) (by decide) (pc' := 60) rfl ?_
  refine s_lushr H d1_60 (pc' := 61) rfl ?_
  refine s_l2i H d1_61 (pc' := 62) rfl ?_
  refine s_i2b H d1_62 (pc' := 63) rfl ?_
  refine s_bastore H d1_63 (i := 0) rfl (by decide) (jn := 13) (by decide) (Nat.le_of_ble_eq_true rfl) (x := (pb16 vv)) (nar_i8 _).symm (pc' := 64) rfl ?_
  show Go Z k 0 0 ((a, ArI Z .byte ([x0, x1, x2, x3, x4, x5, x6, x7, (pb56 vv), (pb48 vv), (pb40 vv), (pb32 vv), (pb24 vv), (pb16 vv), x14, x15] : List Int32)) :: F) 64 #[.val (.ref a), .val (.int (8 : Int32)), .val (.long vv), .second] []
  refine s_aloadn H d1_64 rfl rfl (pc' := 65) rfl ?_
  refine s_iloadn H d1_65 rfl (pc' := 66) rfl ?_
  refine s_bipush H d1_66 (z := (6 : Int32)) (by decide) (pc' := 68) rfl ?_
  refine s_iadd H d1_68 (pc' := 69) rfl ?_
  refine s_lloadn H d1_69 rfl (pc' := 70) rfl ?_
  refine s_bipush H d1_70 (z := (8 : Int32)) (by decide) (pc' := 72) rfl ?_
  refine s_lushr H d1_72 (pc' := 73) rfl ?_
  refine s_l2i H d1_73 (pc' := 74) rfl ?_
  refine s_i2b H d1_74 (pc' := 75) rfl ?_
  refine s_bastore H d1_75 (i := 0) rfl (by decide) (jn := 14) (by decide) (Nat.le_of_ble_eq_true rfl) (x := (pb8 vv)) (nar_i8 _).symm (pc' := 76) rfl ?_
  show Go Z k 0 0 ((a, ArI Z .byte ([x0, x1, x2, x3, x4, x5, x6, x7, (pb56 vv), (pb48 vv), (pb40 vv), (pb32 vv), (pb24 vv), (pb16 vv), (pb8 vv), x15] : List Int32)) :: F) 76 #[.val (.ref a), .val (.int (8 : Int32)), .val (.long vv), .second] []
  refine s_aloadn H d1_76 rfl rfl (pc' := 77) rfl ?_
  refine s_iloadn H d1_77 rfl (pc' := 78) rfl ?_
  refine s_bipush H d1_78 (z := (7 : Int32)) (by decide) (pc' := 80) rfl ?_
  refine s_iadd H d1_80 (pc' := 81) rfl ?_
  refine s_lloadn H d1_81 rfl (pc' := 82) rfl ?_
  refine s_l2i H d1_82 (pc' := 83) rfl ?_
  refine s_i2b H d1_83 (pc' := 84) rfl ?_
  refine s_bastore H d1_84 (i := 0) rfl (by decide) (jn := 15) (by decide) (Nat.le_of_ble_eq_true rfl) (x := (pb0 vv)) (nar_i8 _).symm (pc' := 85) rfl ?_
  show Go Z k 0 0 ((a, ArI Z .byte ([x0, x1, x2, x3, x4, x5, x6, x7, (pb56 vv), (pb48 vv), (pb40 vv), (pb32 vv), (pb24 vv), (pb16 vv), (pb8 vv), (pb0 vv)] : List Int32)) :: F) 85 #[.val (.ref a), .val (.int (8 : Int32)), .val (.long vv), .second] []
  exact s_vret H d1_85 (by decide) (by decide) (⟨rfl, rfl⟩)
set_option maxRecDepth 65536 in
set_option maxHeartbeats 40000000 in
theorem met_put_8_1 {Z : State} (HT : Tb Z) {F : Hp} (a : Addr) (e : Addr) (PE : Cell → Prop) (vv : Int64) (x0 x1 x2 x3 x4 x5 x6 x7 x8 x9 x10 x11 x12 x13 x14 x15 : Int32)  : Met Z y_1 method_3_code 4 none ({ frames := 0, cells := 0, slots := 0, locals := 0 } : Room) [(.ref a), (.int (8 : Int32)), (.long vv)] ((e, PE) :: (a, ArI Z .byte ([x0, x1, x2, x3, x4, x5, x6, x7, x8, x9, x10, x11, x12, x13, x14, x15] : List Int32)) :: F) (fun v M' => v = none ∧ M' = ((e, PE) :: (a, ArI Z .byte ([x0, x1, x2, x3, x4, x5, x6, x7, (pb56 vv), (pb48 vv), (pb40 vv), (pb32 vv), (pb24 vv), (pb16 vv), (pb8 vv), (pb0 vv)] : List Int32)) :: F)) := by
  refine Met.of HT pl_1 (Ls := #[.val (.ref a), .val (.int (8 : Int32)), .val (.long vv), .second]) (fun m => by first | (simp [entryFrame, mkF, argsToLocals, Value.category]; done) | rfl) (fun k H => ?_)
  refine s_aloadn H d1_0 rfl rfl (pc' := 1) rfl ?_
  refine s_iloadn H d1_1 rfl (pc' := 2) rfl ?_
  refine s_lloadn H d1_2 rfl (pc' := 3) rfl ?_
  refine s_bipush H d1_3 (z := (56 : Int32)) (by decide) (pc' := 5) rfl ?_
  refine s_lushr H d1_5 (pc' := 6) rfl ?_
  refine s_l2i H d1_6 (pc' := 7) rfl ?_
  refine s_i2b H d1_7 (pc' := 8) rfl ?_
  refine s_bastore H d1_8 (i := 1) rfl (by decide) (jn := 8) (by decide) (Nat.le_of_ble_eq_true rfl) (x := (pb56 vv)) (nar_i8 _).symm (pc' := 9) rfl ?_
  show Go Z k 0 0 ((e, PE) :: (a, ArI Z .byte ([x0, x1, x2, x3, x4, x5, x6, x7, (pb56 vv), x9, x10, x11, x12, x13, x14, x15] : List Int32)) :: F) 9 #[.val (.ref a), .val (.int (8 : Int32)), .val (.long vv), .second] []
  refine s_aloadn H d1_9 rfl rfl (pc' := 10) rfl ?_
  refine s_iloadn H d1_10 rfl (pc' := 11) rfl ?_
  refine s_iconst H d1_11 (z := (1 : Int32)) (by decide) (pc' := 12) rfl ?_
  refine s_iadd H d1_12 (pc' := 13) rfl ?_
  refine s_lloadn H d1_13 rfl (pc' := 14) rfl ?_
  refine s_bipush H d1_14 (z := (48 : Int32)) (by decide) (pc' := 16) rfl ?_
  refine s_lushr H d1_16 (pc' := 17) rfl ?_
  refine s_l2i H d1_17 (pc' := 18) rfl ?_
  refine s_i2b H d1_18 (pc' := 19) rfl ?_
  refine s_bastore H d1_19 (i := 1) rfl (by decide) (jn := 9) (by decide) (Nat.le_of_ble_eq_true rfl) (x := (pb48 vv)) (nar_i8 _).symm (pc' := 20) rfl ?_
  show Go Z k 0 0 ((e, PE) :: (a, ArI Z .byte ([x0, x1, x2, x3, x4, x5, x6, x7, (pb56 vv), (pb48 vv), x10, x11, x12, x13, x14, x15] : List Int32)) :: F) 20 #[.val (.ref a), .val (.int (8 : Int32)), .val (.long vv), .second] []
  refine s_aloadn H d1_20 rfl rfl (pc' := 21) rfl ?_
  refine s_iloadn H d1_21 rfl (pc' := 22) rfl ?_
  refine s_iconst H d1_22 (z := (2 : Int32)) (by decide) (pc' := 23) rfl ?_
  refine s_iadd H d1_23 (pc' := 24) rfl ?_
  refine s_lloadn H d1_24 rfl (pc' := 25) rfl ?_
  refine s_bipush H d1_25 (z := (40 : Int32)) (by decide) (pc' := 27) rfl ?_
  refine s_lushr H d1_27 (pc' := 28) rfl ?_
  refine s_l2i H d1_28 (pc' := 29) rfl ?_
  refine s_i2b H d1_29 (pc' := 30) rfl ?_
  refine s_bastore H d1_30 (i := 1) rfl (by decide) (jn := 10) (by decide) (Nat.le_of_ble_eq_true rfl) (x := (pb40 vv)) (nar_i8 _).symm (pc' := 31) rfl ?_
  show Go Z k 0 0 ((e, PE) :: (a, ArI Z .byte ([x0, x1, x2, x3, x4, x5, x6, x7, (pb56 vv), (pb48 vv), (pb40 vv), x11, x12, x13, x14, x15] : List Int32)) :: F) 31 #[.val (.ref a), .val (.int (8 : Int32)), .val (.long vv), .second] []
  refine s_aloadn H d1_31 rfl rfl (pc' := 32) rfl ?_
  refine s_iloadn H d1_32 rfl (pc' := 33) rfl ?_
  refine s_iconst H d1_33 (z := (3 : Int32)) (by decide) (pc' := 34) rfl ?_
  refine s_iadd H d1_34 (pc' := 35) rfl ?_
  refine s_lloadn H d1_35 rfl (pc' := 36) rfl ?_
  refine s_bipush H d1_36 (z := (32 : Int32)) (by decide) (pc' := 38) rfl ?_
  refine s_lushr H d1_38 (pc' := 39) rfl ?_
  refine s_l2i H d1_39 (pc' := 40) rfl ?_
  refine s_i2b H d1_40 (pc' := 41) rfl ?_
  refine s_bastore H d1_41 (i := 1) rfl (by decide) (jn := 11) (by decide) (Nat.le_of_ble_eq_true rfl) (x := (pb32 vv)) (nar_i8 _).symm (pc' := 42) rfl ?_
  show Go Z k 0 0 ((e, PE) :: (a, ArI Z .byte ([x0, x1, x2, x3, x4, x5, x6, x7, (pb56 vv), (pb48 vv), (pb40 vv), (pb32 vv), x12, x13, x14, x15] : List Int32)) :: F) 42 #[.val (.ref a), .val (.int (8 : Int32)), .val (.long vv), .second] []
  refine s_aloadn H d1_42 rfl rfl (pc' := 43) rfl ?_
  refine s_iloadn H d1_43 rfl (pc' := 44) rfl ?_
  refine s_iconst H d1_44 (z := (4 : Int32)) (by decide) (pc' := 45) rfl ?_
  refine s_iadd H d1_45 (pc' := 46) rfl ?_
  refine s_lloadn H d1_46 rfl (pc' := 47) rfl ?_
  refine s_bipush H d1_47 (z := (24 : Int32)) (by decide) (pc' := 49) rfl ?_
  refine s_lushr H d1_49 (pc' := 50) rfl ?_
  refine s_l2i H d1_50 (pc' := 51) rfl ?_
  refine s_i2b H d1_51 (pc' := 52) rfl ?_
  refine s_bastore H d1_52 (i := 1) rfl (by decide) (jn := 12) (by decide) (Nat.le_of_ble_eq_true rfl) (x := (pb24 vv)) (nar_i8 _).symm (pc' := 53) rfl ?_
  show Go Z k 0 0 ((e, PE) :: (a, ArI Z .byte ([x0, x1, x2, x3, x4, x5, x6, x7, (pb56 vv), (pb48 vv), (pb40 vv), (pb32 vv), (pb24 vv), x13, x14, x15] : List Int32)) :: F) 53 #[.val (.ref a), .val (.int (8 : Int32)), .val (.long vv), .second] []
  refine s_aloadn H d1_53 rfl rfl (pc' := 54) rfl ?_
  refine s_iloadn H d1_54 rfl (pc' := 55) rfl ?_
  refine s_iconst H d1_55 (z := (5 : Int32)) (by decide) (pc' := 56) rfl ?_
  refine s_iadd H d1_56 (pc' := 57) rfl ?_
  refine s_lloadn H d1_57 rfl (pc' := 58) rfl ?_
  refine s_bipush H d1_58 (z := (16 : Int32)) (by decide) (pc' := 60) rfl ?_
  refine s_lushr H d1_60 (pc' := 61) rfl ?_
  refine s_l2i H d1_61 (pc' := 62) rfl ?_
  refine s_i2b H d1_62 (pc' := 63) rfl ?_
  refine s_bastore H d1_63 (i := 1) rfl (by decide) (jn := 13) (by decide) (Nat.le_of_ble_eq_true rfl) (x := (pb16 vv)) (nar_i8 _).symm (pc' := 64) rfl ?_
  show Go Z k 0 0 ((e, PE) :: (a, ArI Z .byte ([x0, x1, x2, x3, x4, x5, x6, x7, (pb56 vv), (pb48 vv), (pb40 vv), (pb32 vv), (pb24 vv), (pb16 vv), x14, x15] : List Int32)) :: F) 64 #[.val (.ref a), .val (.int (8 : Int32)), .val (.long vv), .second] []
  refine s_aloadn H d1_64 rfl rfl (pc' := 65) rfl ?_
  refine s_iloadn H d1_65 rfl (pc' := 66) rfl ?_
  refine s_bipush H d1_66 (z := (6 : Int32)) (by decide) (pc' := 68) rfl ?_
  refine s_iadd H d1_68 (pc' := 69) rfl ?_
  refine s_lloadn H d1_69 rfl (pc' := 70) rfl ?_
  refine s_bipush H d1_70 (z := (8 : Int32)) (by decide) (pc' := 72) rfl ?_
  refine s_lushr H d1_72 (pc' := 73) rfl ?_
  refine s_l2i H d1_73 (pc' := 74) rfl ?_
  refine s_i2b H d1_74 (pc' := 75) rfl ?_
  refine s_bastore H d1_75 (i := 1) rfl (by decide) (jn := 14) (by decide) (Nat.le_of_ble_eq_true rfl) (x := (pb8 vv)) (nar_i8 _).symm (pc' := 76) rfl ?_
  show Go Z k 0 0 ((e, PE) :: (a, ArI Z .byte ([x0, x1, x2, x3, x4, x5, x6, x7, (pb56 vv), (pb48 vv), (pb40 vv), (pb32 vv), (pb24 vv), (pb16 vv), (pb8 vv), x15] : List Int32)) :: F) 76 #[.val (.ref a), .val (.int (8 : Int32)), .val (.long vv), .second] []
  refine s_aloadn H d1_76 rfl rfl (pc' := 77) rfl ?_
  refine s_iloadn H d1_77 rfl (pc' := 78) rfl ?_
  refine s_bipush H d1_78 (z := (7 : Int32)) (by decide) (pc' := 80) rfl ?_
  refine s_iadd H d1_80 (pc' := 81) rfl ?_
  refine s_lloadn H d1_81 rfl (pc' := 82) rfl ?_
  refine s_l2i H d1_82 (pc' := 83) rfl ?_
  refine s_i2b H d1_83 (pc' := 84) rfl ?_
  refine s_bastore H d1_84 (i := 1) rfl (by decide) (jn := 15) (by decide) (Nat.le_of_ble_eq_true rfl) (x := (pb0 vv)) (nar_i8 _).symm (pc' := 85) rfl ?_
  show Go Z k 0 0 ((e, PE) :: (a, ArI Z .byte ([x0, x1, x2, x3, x4, x5, x6, x7, (pb56 vv), (pb48 vv), (pb40 vv), (pb32 vv), (pb24 vv), (pb16 vv), (pb8 vv), (pb0 vv)] : List Int32)) :: F) 85 #[.val (.ref a), .val (.int (8 : Int32)), .val (.long vv), .second] []
  exact s_vret H d1_85 (by decide) (by decide) (⟨rfl, rfl⟩)
set_option maxRecDepth 65536 in
set_option maxHeartbeats 40000000 in
theorem met_rec {Z : State} (HT : Tb Z) {F : Hp} (p : Addr)  : Met Z y_3 jdk_30_method_1_code 1 none ({ frames := 1, cells := 0, slots := 0, locals := 12 } : Room) [(.ref p)] (F) (fun v M' => v = none ∧ M' = F) := by
  refine Met.of HT pl_3 (Ls := #[.val (.ref p)]) (fun m => by first | (simp [entryFrame, mkF, argsToLocals, Value.category]; done) | rfl) (fun k H => ?_)
  refine s_aloadn H d3_0 rfl rfl (pc' := 1) rfl ?_
  refine s_objinit H d3_1 (mem (i := 16) rfl) (mem (i := 17) rfl) (mem (i := 18) rfl) rfl (by decide) (Nat.le_of_ble_eq_true rfl) (pc' := 4) rfl ?_
  exact s_vret H d3_4 (by decide) (by decide) (⟨rfl, rfl⟩)
set_option maxRecDepth 65536 in
set_option maxHeartbeats 40000000 in
theorem met_oi {Z : State} (HT : Tb Z) {F : Hp} (o u0 u1 u2 u3 u4 u5 u6 u7 : Addr) (x0 x1 x2 x3 x4 x5 : Addr) (P0 P1 P2 P3 P4 P5 : Cell → Prop)  : Met Z y_2 prog_30_method_1_code 9 none ({ frames := 2, cells := 0, slots := 0, locals := 24 } : Room) [(.ref o), (.ref u0), (.ref u1), (.ref u2), (.ref u3), (.ref u4), (.ref u5), (.ref u6), (.ref u7)] ((x0, P0) :: (x1, P1) :: (x2, P2) :: (x3, P3) :: (x4, P4) :: (x5, P5) :: (o, Obj Z "com/example/quintet/quintet/Milenage$Outputs" [("com/example/quintet/quintet/Milenage$Outputs", "macA", "[B", .null), ("com/example/quintet/quintet/Milenage$Outputs", "macS", "[B", .null), ("com/example/quintet/quintet/Milenage$Outputs", "res", "[B", .null), ("com/example/quintet/quintet/Milenage$Outputs", "ck", "[B", .null), ("com/example/quintet/quintet/Milenage$Outputs", "ik", "[B", .null), ("com/example/quintet/quintet/Milenage$Outputs", "ak", "[B", .null), ("com/example/quintet/quintet/Milenage$Outputs", "akStar", "[B", .null), ("com/example/quintet/quintet/Milenage$Outputs", "autn", "[B", .null)]) :: F) (fun v M' => v = none ∧ M' = ((x0, P0) :: (x1, P1) :: (x2, P2) :: (x3, P3) :: (x4, P4) :: (x5, P5) :: (o, Obj Z "com/example/quintet/quintet/Milenage$Outputs" [("com/example/quintet/quintet/Milenage$Outputs", "macA", "[B", (.ref u0)), ("com/example/quintet/quintet/Milenage$Outputs", "macS", "[B", (.ref u1)), ("com/example/quintet/quintet/Milenage$Outputs", "res", "[B", (.ref u2)), ("com/example/quintet/quintet/Milenage$Outputs", "ck", "[B", (.ref u3)), ("com/example/quintet/quintet/Milenage$Outputs", "ik", "[B", (.ref u4)), ("com/example/quintet/quintet/Milenage$Outputs", "ak", "[B", (.ref u5)), ("com/example/quintet/quintet/Milenage$Outputs", "akStar", "[B", (.ref u6)), ("com/example/quintet/quintet/Milenage$Outputs", "autn", "[B", (.ref u7))]) :: F)) := by
  refine Met.of HT pl_2 (Ls := #[.val (.ref o), .val (.ref u0), .val (.ref u1), .val (.ref u2), .val (.ref u3), .val (.ref u4), .val (.ref u5), .val (.ref u6), .val (.ref u7)]) (fun m => by first | (simp [entryFrame, mkF, argsToLocals, Value.category]; done) | rfl) (fun k H => ?_)
  refine s_aloadn H d2_0 rfl rfl (pc' := 1) rfl ?_
  refine s_init H (met_rec H.tb o) d2_1 rfl (mem (i := 11) rfl) (mem (i := 12) rfl) (mem (i := 14) rfl) (mem (i := 15) rfl) (by decide) pd_3 rfl (rest := []) rfl rfl (by decide) (Nat.le_of_ble_eq_true rfl) (cn' := 0) (sn' := 0) rfl rfl (by decide) (by decide) (pc' := 4) rfl (fun v0 M0 hq => ?_)
  obtain ⟨rfl, hm0⟩ := hq
  subst M0
  show Go Z k 0 0 ((x0, P0) :: (x1, P1) :: (x2, P2) :: (x3, P3) :: (x4, P4) :: (x5, P5) :: (o, Obj Z "com/example/quintet/quintet/Milenage$Outputs" [("com/example/quintet/quintet/Milenage$Outputs", "macA", "[B", .null), ("com/example/quintet/quintet/Milenage$Outputs", "macS", "[B", .null), ("com/example/quintet/quintet/Milenage$Outputs", "res", "[B", .null), ("com/example/quintet/quintet/Milenage$Outputs", "ck", "[B", .null), ("com/example/quintet/quintet/Milenage$Outputs", "ik", "[B", .null), ("com/example/quintet/quintet/Milenage$Outputs", "ak", "[B", .null), ("com/example/quintet/quintet/Milenage$Outputs", "akStar", "[B", .null), ("com/example/quintet/quintet/Milenage$Outputs", "autn", "[B", .null)]) :: F) 4 #[.val (.ref o), .val (.ref u0), .val (.ref u1), .val (.ref u2), .val (.ref u3), .val (.ref u4), .val (.ref u5), .val (.ref u6), .val (.ref u7)] []
  refine s_aloadn H d2_4 rfl rfl (pc' := 5) rfl ?_
  refine s_aloadn H d2_5 rfl rfl (pc' := 6) rfl ?_
  refine s_putf H d2_6 (mem (i := 19) rfl) (Or.inr ⟨(mem (i := 20) rfl), rfl, rfl⟩) (mem (i := 6) rfl) (ty := (.array .byte)) (by decide) rfl rfl (i := 6) (j := 0) rfl rfl (pc' := 9) rfl ?_
  show Go Z k 0 0 ((x0, P0) :: (x1, P1) :: (x2, P2) :: (x3, P3) :: (x4, P4) :: (x5, P5) :: (o, Obj Z "com/example/quintet/quintet/Milenage$Outputs" [("com/example/quintet/quintet/Milenage$Outputs", "macA", "[B", (.ref u0)), ("com/example/quintet/quintet/Milenage$Outputs", "macS", "[B", .null), ("com/example/quintet/quintet/Milenage$Outputs", "res", "[B", .null), ("com/example/quintet/quintet/Milenage$Outputs", "ck", "[B", .null), ("com/example/quintet/quintet/Milenage$Outputs", "ik", "[B", .null), ("com/example/quintet/quintet/Milenage$Outputs", "ak", "[B", .null), ("com/example/quintet/quintet/Milenage$Outputs", "akStar", "[B", .null), ("com/example/quintet/quintet/Milenage$Outputs", "autn", "[B", .null)]) :: F) 9 #[.val (.ref o), .val (.ref u0), .val (.ref u1), .val (.ref u2), .val (.ref u3), .val (.ref u4), .val (.ref u5), .val (.ref u6), .val (.ref u7)] []
  refine s_aloadn H d2_9 rfl rfl (pc' := 10) rfl ?_
  refine s_aloadn H d2_10 rfl rfl (pc' := 11) rfl ?_
  refine s_putf H d2_11 (mem (i := 21) rfl) (Or.inr ⟨(mem (i := 22) rfl), rfl, rfl⟩) (mem (i := 6) rfl) (ty := (.array .byte)) (by decide) rfl rfl (i := 6) (j := 1) rfl rfl (pc' := 14) rfl ?_
  show Go Z k 0 0 ((x0, P0) :: (x1, P1) :: (x2, P2) :: (x3, P3) :: (x4, P4) :: (x5, P5) :: (o, Obj Z "com/example/quintet/quintet/Milenage$Outputs" [("com/example/quintet/quintet/Milenage$Outputs", "macA", "[B", (.ref u0)), ("com/example/quintet/quintet/Milenage$Outputs", "macS", "[B", (.ref u1)), ("com/example/quintet/quintet/Milenage$Outputs", "res", "[B", .null), ("com/example/quintet/quintet/Milenage$Outputs", "ck", "[B", .null), ("com/example/quintet/quintet/Milenage$Outputs", "ik", "[B", .null), ("com/example/quintet/quintet/Milenage$Outputs", "ak", "[B", .null), ("com/example/quintet/quintet/Milenage$Outputs", "akStar", "[B", .null), ("com/example/quintet/quintet/Milenage$Outputs", "autn", "[B", .null)]) :: F) 14 #[.val (.ref o), .val (.ref u0), .val (.ref u1), .val (.ref u2), .val (.ref u3), .val (.ref u4), .val (.ref u5), .val (.ref u6), .val (.ref u7)] []
  refine s_aloadn H d2_14 rfl rfl (pc' := 15) rfl ?_
  refine s_aloadn H d2_15 rfl rfl (pc' := 16) rfl ?_
  refine s_putf H d2_16 (mem (i := 23) rfl) (Or.inr ⟨(mem (i := 24) rfl), rfl, rfl⟩) (mem (i := 6) rfl) (ty := (.array .byte)) (by decide) rfl rfl (i := 6) (j := 2) rfl rfl (pc' := 19) rfl ?_
  show Go Z k 0 0 ((x0, P0) :: (x1, P1) :: (x2, P2) :: (x3, P3) :: (x4, P4) :: (x5, P5) :: (o, Obj Z "com/example/quintet/quintet/Milenage$Outputs" [("com/example/quintet/quintet/Milenage$Outputs", "macA", "[B", (.ref u0)), ("com/example/quintet/quintet/Milenage$Outputs", "macS", "[B", (.ref u1)), ("com/example/quintet/quintet/Milenage$Outputs", "res", "[B", (.ref u2)), ("com/example/quintet/quintet/Milenage$Outputs", "ck", "[B", .null), ("com/example/quintet/quintet/Milenage$Outputs", "ik", "[B", .null), ("com/example/quintet/quintet/Milenage$Outputs", "ak", "[B", .null), ("com/example/quintet/quintet/Milenage$Outputs", "akStar", "[B", .null), ("com/example/quintet/quintet/Milenage$Outputs", "autn", "[B", .null)]) :: F) 19 #[.val (.ref o), .val (.ref u0), .val (.ref u1), .val (.ref u2), .val (.ref u3), .val (.ref u4), .val (.ref u5), .val (.ref u6), .val (.ref u7)] []
  refine s_aloadn H d2_19 rfl rfl (pc' := 20) rfl ?_
  refine s_aload H d2_20 rfl rfl (pc' := 22) rfl ?_
  refine s_putf H d2_22 (mem (i := 25) rfl) (Or.inr ⟨(mem (i := 26) rfl), rfl, rfl⟩) (mem (i := 6) rfl) (ty := (.array .byte)) (by decide) rfl rfl (i := 6) (j := 3) rfl rfl (pc' := 25) rfl ?_
  show Go Z k 0 0 ((x0, P0) :: (x1, P1) :: (x2, P2) :: (x3, P3) :: (x4, P4) :: (x5, P5) :: (o, Obj Z "com/example/quintet/quintet/Milenage$Outputs" [("com/example/quintet/quintet/Milenage$Outputs", "macA", "[B", (.ref u0)), ("com/example/quintet/quintet/Milenage$Outputs", "macS", "[B", (.ref u1)), ("com/example/quintet/quintet/Milenage$Outputs", "res", "[B", (.ref u2)), ("com/example/quintet/quintet/Milenage$Outputs", "ck", "[B", (.ref u3)), ("com/example/quintet/quintet/Milenage$Outputs", "ik", "[B", .null), ("com/example/quintet/quintet/Milenage$Outputs", "ak", "[B", .null), ("com/example/quintet/quintet/Milenage$Outputs", "akStar", "[B", .null), ("com/example/quintet/quintet/Milenage$Outputs", "autn", "[B", .null)]) :: F) 25 #[.val (.ref o), .val (.ref u0), .val (.ref u1), .val (.ref u2), .val (.ref u3), .val (.ref u4), .val (.ref u5), .val (.ref u6), .val (.ref u7)] []
  refine s_aloadn H d2_25 rfl rfl (pc' := 26) rfl ?_
  refine s_aload H d2_26 rfl rfl (pc' := 28) rfl ?_
  refine s_putf H d2_28 (mem (i := 27) rfl) (Or.inr ⟨(mem (i := 28) rfl), rfl, rfl⟩) (mem (i := 6) rfl) (ty := (.array .byte)) (by decide) rfl rfl (i := 6) (j := 4) rfl rfl (pc' := 31) rfl ?_
  show Go Z k 0 0 ((x0, P0) :: (x1, P1) :: (x2, P2) :: (x3, P3) :: (x4, P4) :: (x5, P5) :: (o, Obj Z "com/example/quintet/quintet/Milenage$Outputs" [("com/example/quintet/quintet/Milenage$Outputs", "macA", "[B", (.ref u0)), ("com/example/quintet/quintet/Milenage$Outputs", "macS", "[B", (.ref u1)), ("com/example/quintet/quintet/Milenage$Outputs", "res", "[B", (.ref u2)), ("com/example/quintet/quintet/Milenage$Outputs", "ck", "[B", (.ref u3)), ("com/example/quintet/quintet/Milenage$Outputs", "ik", "[B", (.ref u4)), ("com/example/quintet/quintet/Milenage$Outputs", "ak", "[B", .null), ("com/example/quintet/quintet/Milenage$Outputs", "akStar", "[B", .null), ("com/example/quintet/quintet/Milenage$Outputs", "autn", "[B", .null)]) :: F) 31 #[.val (.ref o), .val (.ref u0), .val (.ref u1), .val (.ref u2), .val (.ref u3), .val (.ref u4), .val (.ref u5), .val (.ref u6), .val (.ref u7)] []
  refine s_aloadn H d2_31 rfl rfl (pc' := 32) rfl ?_
  refine s_aload H d2_32 rfl rfl (pc' := 34) rfl ?_
  refine s_putf H d2_34 (mem (i := 29) rfl) (Or.inr ⟨(mem (i := 30) rfl), rfl, rfl⟩) (mem (i := 6) rfl) (ty := (.array .byte)) (by decide) rfl rfl (i := 6) (j := 5) rfl rfl (pc' := 37) rfl ?_
  show Go Z k 0 0 ((x0, P0) :: (x1, P1) :: (x2, P2) :: (x3, P3) :: (x4, P4) :: (x5, P5) :: (o, Obj Z "com/example/quintet/quintet/Milenage$Outputs" [("com/example/quintet/quintet/Milenage$Outputs", "macA", "[B", (.ref u0)), ("com/example/quintet/quintet/Milenage$Outputs", "macS", "[B", (.ref u1)), ("com/example/quintet/quintet/Milenage$Outputs", "res", "[B", (.ref u2)), ("com/example/quintet/quintet/Milenage$Outputs", "ck", "[B", (.ref u3)), ("com/example/quintet/quintet/Milenage$Outputs", "ik", "[B", (.ref u4)), ("com/example/quintet/quintet/Milenage$Outputs", "ak", "[B", (.ref u5)), ("com/example/quintet/quintet/Milenage$Outputs", "akStar", "[B", .null), ("com/example/quintet/quintet/Milenage$Outputs", "autn", "[B", .null)]) :: F) 37 #[.val (.ref o), .val (.ref u0), .val (.ref u1), .val (.ref u2), .val (.ref u3), .val (.ref u4), .val (.ref u5), .val (.ref u6), .val (.ref u7)] []
  refine s_aloadn H d2_37 rfl rfl (pc' := 38) rfl ?_
  refine s_aload H d2_38 rfl rfl (pc' := 40) rfl ?_
  refine s_putf H d2_40 (mem (i := 31) rfl) (Or.inr ⟨(mem (i := 32) rfl), rfl, rfl⟩) (mem (i := 6) rfl) (ty := (.array .byte)) (by decide) rfl rfl (i := 6) (j := 6) rfl rfl (pc' := 43) rfl ?_
  show Go Z k 0 0 ((x0, P0) :: (x1, P1) :: (x2, P2) :: (x3, P3) :: (x4, P4) :: (x5, P5) :: (o, Obj Z "com/example/quintet/quintet/Milenage$Outputs" [("com/example/quintet/quintet/Milenage$Outputs", "macA", "[B", (.ref u0)), ("com/example/quintet/quintet/Milenage$Outputs", "macS", "[B", (.ref u1)), ("com/example/quintet/quintet/Milenage$Outputs", "res", "[B", (.ref u2)), ("com/example/quintet/quintet/Milenage$Outputs", "ck", "[B", (.ref u3)), ("com/example/quintet/quintet/Milenage$Outputs", "ik", "[B", (.ref u4)), ("com/example/quintet/quintet/Milenage$Outputs", "ak", "[B", (.ref u5)), ("com/example/quintet/quintet/Milenage$Outputs", "akStar", "[B", (.ref u6)), ("com/example/quintet/quintet/Milenage$Outputs", "autn", "[B", .null)]) :: F) 43 #[.val (.ref o), .val (.ref u0), .val (.ref u1), .val (.ref u2), .val (.ref u3), .val (.ref u4), .val (.ref u5), .val (.ref u6), .val (.ref u7)] []
  refine s_aloadn H d2_43 rfl rfl (pc' := 44) rfl ?_
  refine s_aload H d2_44 rfl rfl (pc' := 46) rfl ?_
  refine s_putf H d2_46 (mem (i := 33) rfl) (Or.inr ⟨(mem (i := 34) rfl), rfl, rfl⟩) (mem (i := 6) rfl) (ty := (.array .byte)) (by decide) rfl rfl (i := 6) (j := 7) rfl rfl (pc' := 49) rfl ?_
  show Go Z k 0 0 ((x0, P0) :: (x1, P1) :: (x2, P2) :: (x3, P3) :: (x4, P4) :: (x5, P5) :: (o, Obj Z "com/example/quintet/quintet/Milenage$Outputs" [("com/example/quintet/quintet/Milenage$Outputs", "macA", "[B", (.ref u0)), ("com/example/quintet/quintet/Milenage$Outputs", "macS", "[B", (.ref u1)), ("com/example/quintet/quintet/Milenage$Outputs", "res", "[B", (.ref u2)), ("com/example/quintet/quintet/Milenage$Outputs", "ck", "[B", (.ref u3)), ("com/example/quintet/quintet/Milenage$Outputs", "ik", "[B", (.ref u4)), ("com/example/quintet/quintet/Milenage$Outputs", "ak", "[B", (.ref u5)), ("com/example/quintet/quintet/Milenage$Outputs", "akStar", "[B", (.ref u6)), ("com/example/quintet/quintet/Milenage$Outputs", "autn", "[B", (.ref u7))]) :: F) 49 #[.val (.ref o), .val (.ref u0), .val (.ref u1), .val (.ref u2), .val (.ref u3), .val (.ref u4), .val (.ref u5), .val (.ref u6), .val (.ref u7)] []
  exact s_vret H d2_49 (by decide) (by decide) (⟨rfl, rfl⟩)
set_option maxRecDepth 65536 in
set_option maxHeartbeats 40000000 in
theorem met_min {Z : State} (HT : Tb Z) {F : Hp} (a b : Nat) (ha : a < 2147483648) (hb : b < 2147483648) : Met Z y_9 jdk_29_method_69_code 2 (some .int) ({ frames := 0, cells := 0, slots := 0, locals := 0 } : Room) [(.int a.toInt32), (.int b.toInt32)] (F) (fun v M' => v = some (.int (min a b).toInt32) ∧ M' = F) := by
  refine Met.of HT pl_9 (Ls := #[.val (.int a.toInt32), .val (.int b.toInt32)]) (fun m => by first | (simp [entryFrame, mkF, argsToLocals, Value.category]; done) | rfl) (fun k H => ?_)
  refine s_iloadn H d9_0 rfl (pc' := 1) rfl ?_
  refine s_iloadn H d9_1 rfl (pc' := 2) rfl ?_
  refine s_icmp H d9_2 (py := 9) (pc' := 5) q_gt (by decide) rfl (fun c2 => ?_) (fun c2 => ?_)
  · rw [own_lt hb ha] at c2
    refine s_iloadn H d9_9 rfl (pc' := 10) rfl ?_
    exact s_iret H d9_10 rfl (Or.inl rfl) (by decide) (by decide) (⟨by rw [show min a b = b from by omega], rfl⟩)
  · rw [own_lt hb ha] at c2
    refine s_iloadn H d9_5 rfl (pc' := 6) rfl ?_
    refine s_goto H d9_6 (pc' := 10) (by decide) ?_
    exact s_iret H d9_10 rfl (Or.inl rfl) (by decide) (by decide) (⟨by rw [show min a b = a from by omega], rfl⟩)
set_option maxRecDepth 65536 in
set_option maxHeartbeats 40000000 in
theorem met_cl {Z : State} (HT : Tb Z) {F : Hp} (f t : Nat) (hf : f ≤ t) (ht : t < 2147483648) : Met Z y_8 jdk_65_method_131_code 2 none ({ frames := 0, cells := 0, slots := 0, locals := 0 } : Room) [(.int f.toInt32), (.int t.toInt32)] (F) (fun v M' => v = none ∧ M' = F) := by
  refine Met.of HT pl_8 (Ls := #[.val (.int f.toInt32), .val (.int t.toInt32)]) (fun m => by first | (simp [entryFrame, mkF, argsToLocals, Value.category]; done) | rfl) (fun k H => ?_)
  refine s_iloadn H d8_0 rfl (pc' := 1) rfl ?_
  refine s_iloadn H d8_1 rfl (pc' := 2) rfl ?_
  refine s_icmp H d8_2 (py := 37) (pc' := 5) q_ge (by decide) rfl (fun c2 => ?_) (fun c2 => ?_)
  · exact s_vret H d8_37 (by decide) (by decide) (⟨rfl, rfl⟩)
  · exact absurd ((own_le (by omega) ht).mpr hf) c2
theorem own_cr (vs : List Int32) (f : Nat) (h : vs.length = 16) (hf : f ≤ 8) : (List.replicate 8 (0 : Int32)).take 0 ++ (vs.drop f).take 8 ++ (List.replicate 8 (0 : Int32)).drop (0 + 8) = (vs.drop f).take 8 := by simp
set_option maxRecDepth 65536 in
set_option maxHeartbeats 40000000 in
theorem met_crb {Z : State} (HT : Tb Z) {M : Hp} {i : Nat} (a : Addr) (vs : List Int32) (f t : Nat) (hi : M[i]? = some (a, ArI Z .byte vs)) (hl : vs.length = 16) (hf : f ≤ t) (ht : t ≤ 16) (h8 : t = f + 8) : Met Z y_7 jdk_65_method_133_code 5 (some (.array .byte)) ({ frames := 1, cells := 1, slots := 8, locals := 40 } : Room) [(.ref a), (.int f.toInt32), (.int t.toInt32)] (M) (fun v M' => ∃ r : Addr, v = some (.ref r) ∧ M' = (r, ArI Z .byte ((vs.drop f).take 8)) :: M) := by
  refine Met.of HT pl_7 (Ls := #[.val (.ref a), .val (.int f.toInt32), .val (.int t.toInt32), .unset, .unset]) (fun m => by first | (simp [entryFrame, mkF, argsToLocals, Value.category]; done) | rfl) (fun k H => ?_)
  refine s_iloadn H d7_0 rfl (pc' := 1) rfl ?_
  refine s_iloadn H d7_1 rfl (pc' := 2) rfl ?_
  refine s_static H (met_cl H.tb f t hf (by omega)) d7_2 (mem (i := 47) rfl) (mem (i := 48) rfl) (mem (i := 42) rfl) (mem (i := 49) rfl) (by decide) pd_8 rfl (rest := []) rfl rfl (by decide) (Nat.le_of_ble_eq_true rfl) (cn' := 0) (sn' := 0) rfl rfl (by decide) (by decide) (pc' := 5) rfl (fun v0 M0 hq => ?_)
  obtain ⟨rfl, hm0⟩ := hq
  subst M0
  show Go Z k 0 0 (M) 5 #[.val (.ref a), .val (.int f.toInt32), .val (.int t.toInt32), .unset, .unset] []
  refine s_iloadn H d7_5 rfl (pc' := 6) rfl ?_
  refine s_iloadn H d7_6 rfl (pc' := 7) rfl ?_
  refine s_isub H d7_7 (pc' := 8) rfl ?_
  rw [own_subN hf (by omega), show t - f = 8 from by omega]
  refine s_istoren H d7_8 (L' := fun z => #[.val (.ref a), .val (.int f.toInt32), .val (.int t.toInt32), .val (.int z), .unset]) (fun _ => rfl) (pc' := 9) rfl (fun z0 hz => ?_)
  subst z0
  refine s_iloadn H d7_9 rfl (pc' := 10) rfl ?_
  refine s_newarr_byte H d7_10 (mem (i := 0) rfl) (by decide) (cap := 8) (by decide) (by decide) (cn' := 1) (sn' := 8) rfl rfl (by decide) (by decide) (pc' := 12) rfl (fun r => ?_)
  show Go Z k 1 8 ((r, ArI Z .byte (List.replicate 8 (0 : Int32))) :: M) 12 #[.val (.ref a), .val (.int f.toInt32), .val (.int t.toInt32), .val (.int (8 : Nat).toInt32), .unset] [(.ref r)]
  refine s_astore H d7_12 (L' := #[.val (.ref a), .val (.int f.toInt32), .val (.int t.toInt32), .val (.int (8 : Nat).toInt32), .val (.ref r)]) rfl rfl (pc' := 14) rfl ?_
  refine s_aloadn H d7_14 rfl rfl (pc' := 15) rfl ?_
  refine s_iloadn H d7_15 rfl (pc' := 16) rfl ?_
  refine s_aload H d7_16 rfl rfl (pc' := 18) rfl ?_
  refine s_iconst H d7_18 (z := (0 : Int32)) (by decide) (pc' := 19) rfl ?_
  refine s_aloadn H d7_19 rfl rfl (pc' := 20) rfl ?_
  refine s_alenI H d7_20 (i := (i + 1)) hi (z := vs.length.toInt32) rfl (pc' := 21) rfl ?_
  refine s_iloadn H d7_21 rfl (pc' := 22) rfl ?_
  refine s_isub H d7_22 (pc' := 23) rfl ?_
  rw [own_subN (by omega) (by omega)]
  refine s_iloadn H d7_23 rfl (pc' := 24) rfl ?_
  refine s_static H (met_min H.tb (vs.length - f) 8 (by omega) (by omega)) d7_24 (mem (i := 50) rfl) (mem (i := 51) rfl) (mem (i := 52) rfl) (mem (i := 53) rfl) (by decide) pd_9 rfl (rest := [(.int (0 : Int32)), (.ref r), (.int f.toInt32), (.ref a)]) rfl rfl (by decide) (Nat.le_of_ble_eq_true rfl) (cn' := 1) (sn' := 8) rfl rfl (by decide) (by decide) (pc' := 27) rfl (fun v0 M0 hq => ?_)
  obtain ⟨rfl, hm0⟩ := hq
  subst M0
  show Go Z k 1 8 ((r, ArI Z .byte (List.replicate 8 (0 : Int32))) :: M) 27 #[.val (.ref a), .val (.int f.toInt32), .val (.int t.toInt32), .val (.int (8 : Nat).toInt32), .val (.ref r)] [(.int (min (vs.length - f) 8).toInt32), (.int (0 : Int32)), (.ref r), (.int f.toInt32), (.ref a)]
  rw [show min (vs.length - f) 8 = 8 from by omega]
  show Go Z k 1 8 ((r, ArI Z .byte (List.replicate 8 (0 : Int32))) :: M) 27 #[.val (.ref a), .val (.int f.toInt32), .val (.int t.toInt32), .val (.int (8 : Nat).toInt32), .val (.ref r)] [(.int (8 : Nat).toInt32), (.int (0 : Int32)), (.ref r), (.int f.toInt32), (.ref a)]
  refine s_acopy_I H (f) (0) (8) d7_27 (mem (i := 54) rfl) (mem (i := 57) rfl) (mem (i := 55) rfl) (mem (i := 56) rfl) (i := (i + 1)) (j := 0) hi rfl rfl rfl rfl rfl (by omega) (by simp) rfl (by decide) (Nat.le_of_ble_eq_true rfl) (pc' := 30) rfl ?_
  rw [own_cr vs f hl (by omega)]
  show Go Z k 1 8 ((r, ArI Z .byte ((vs.drop f).take 8)) :: M) 30 #[.val (.ref a), .val (.int f.toInt32), .val (.int t.toInt32), .val (.int (8 : Nat).toInt32), .val (.ref r)] []
  refine s_aload H d7_30 rfl rfl (pc' := 32) rfl ?_
  exact s_aret H d7_32 rfl rfl (by decide) (by decide) (⟨r, rfl, rfl⟩)
set_option maxRecDepth 65536 in
set_option maxHeartbeats 40000000 in
theorem met_cr {Z : State} (HT : Tb Z) {M : Hp} {i : Nat} (a : Addr) (vs : List Int32) (f t : Nat) (hi : M[i]? = some (a, ArI Z .byte vs)) (hl : vs.length = 16) (hf : f ≤ t) (ht : t ≤ 16) (h8 : t = f + 8) : Met Z y_6 jdk_65_method_132_code 3 (some (.array .byte)) ({ frames := 2, cells := 1, slots := 8, locals := 56 } : Room) [(.ref a), (.int f.toInt32), (.int t.toInt32)] (M) (fun v M' => ∃ r : Addr, v = some (.ref r) ∧ M' = (r, ArI Z .byte ((vs.drop f).take 8)) :: M) := by
  refine Met.of HT pl_6 (Ls := #[.val (.ref a), .val (.int f.toInt32), .val (.int t.toInt32)]) (fun m => by first | (simp [entryFrame, mkF, argsToLocals, Value.category]; done) | rfl) (fun k H => ?_)
  refine s_iloadn H d6_0 rfl (pc' := 1) rfl ?_
  refine s_if H d6_1 (py := 10) (pc' := 4) z_ne (by decide) rfl (fun c1 => ?_) (fun c1 => ?_)
  · refine s_aloadn H d6_10 rfl rfl (pc' := 11) rfl ?_
    refine s_iloadn H d6_11 rfl (pc' := 12) rfl ?_
    refine s_iloadn H d6_12 rfl (pc' := 13) rfl ?_
    refine s_static H (met_crb H.tb a vs f t hi hl hf ht h8) d6_13 (mem (i := 44) rfl) (mem (i := 45) rfl) (mem (i := 42) rfl) (mem (i := 46) rfl) (by decide) pd_7 rfl (rest := []) rfl rfl (by decide) (Nat.le_of_ble_eq_true rfl) (cn' := 1) (sn' := 8) rfl rfl (by decide) (by decide) (pc' := 16) rfl (fun v0 M0 hq => ?_)
    obtain ⟨r, rfl, hm0⟩ := hq
    subst M0
    show Go Z k 1 8 ((r, ArI Z .byte ((vs.drop f).take 8)) :: M) 16 #[.val (.ref a), .val (.int f.toInt32), .val (.int t.toInt32)] [(.ref r)]
    exact s_aret H d6_16 rfl rfl (by decide) (by decide) (⟨r, rfl, rfl⟩)
  · refine s_iloadn H d6_4 rfl (pc' := 5) rfl ?_
    refine s_aloadn H d6_5 rfl rfl (pc' := 6) rfl ?_
    refine s_alenI H d6_6 (i := i) hi (z := vs.length.toInt32) rfl (pc' := 7) rfl ?_
    refine s_icmp H d6_7 (py := 17) (pc' := 10) q_eq (by decide) rfl (fun c7 => ?_) (fun c7 => ?_)
    · exact absurd ((own_inj (by omega) (by omega)).mp c7) (by have := (own_inj (m := f) (n := 0) (by omega) (by decide)).mp (Classical.not_not.mp c1); omega)
    · refine s_aloadn H d6_10 rfl rfl (pc' := 11) rfl ?_
      refine s_iloadn H d6_11 rfl (pc' := 12) rfl ?_
      refine s_iloadn H d6_12 rfl (pc' := 13) rfl ?_
      refine s_static H (met_crb H.tb a vs f t hi hl hf ht h8) d6_13 (mem (i := 44) rfl) (mem (i := 45) rfl) (mem (i := 42) rfl) (mem (i := 46) rfl) (by decide) pd_7 rfl (rest := []) rfl rfl (by decide) (Nat.le_of_ble_eq_true rfl) (cn' := 1) (sn' := 8) rfl rfl (by decide) (by decide) (pc' := 16) rfl (fun v0 M0 hq => ?_)
      obtain ⟨r, rfl, hm0⟩ := hq
      subst M0
      show Go Z k 1 8 ((r, ArI Z .byte ((vs.drop f).take 8)) :: M) 16 #[.val (.ref a), .val (.int f.toInt32), .val (.int t.toInt32)] [(.ref r)]
      exact s_aret H d6_16 rfl rfl (by decide) (by decide) (⟨r, rfl, rfl⟩)
theorem own_zip {va vb rl : List Int32} {n : Nat} (ha : va.length = n) (hb : vb.length = n) (hr : rl.length = n) (h : ∀ i, i < n → rl[i]? = some (xb (va.getD i 0) (vb.getD i 0))) : rl = List.zipWith xb va vb := by
  apply List.ext_getElem?
  intro i
  rcases Nat.lt_or_ge i n with lt | ge
  · rw [h i lt, List.getElem?_zipWith, List.getElem?_eq_getElem (by omega), List.getElem?_eq_getElem (by omega)]
    simp [List.getD_eq_getElem?_getD, List.getElem?_eq_getElem (show i < va.length by omega), List.getElem?_eq_getElem (show i < vb.length by omega)]
  · rw [List.getElem?_eq_none (by omega), List.getElem?_eq_none (by simp; omega)]
theorem own_set_get {l : List Int32} {m i : Nat} {x : Int32} {f : Nat → Int32} (h : ∀ j, j < m → l[j]? = some (f j)) (hm : m < l.length) (hx : x = f m) (hi : i < m + 1) : (l.set m x)[i]? = some (f i) := by
  rcases Nat.lt_or_ge i m with lt | ge
  · rw [List.getElem?_set_ne (by omega)]; exact h i lt
  · have : i = m := by omega
    subst this; rw [List.getElem?_set_self hm, hx]
theorem own_app {A L : Hp} {x y : Addr × (Cell → Prop)} {n : Nat} (h : L[n]? = some y) : ((x :: A) ++ L)[A.length + n + 1]? = some y := by
  rw [List.getElem?_append_right (by simp only [List.length_cons]; omega), List.length_cons, show A.length + n + 1 - (A.length + 1) = n from by omega]; exact h
theorem getD_someI {ws : List Int32} {i : Nat} (h : i < ws.length) : ws[i]? = some (ws.getD i 0) := by
  rw [List.getD_eq_getElem?_getD, List.getElem?_eq_getElem h]; rfl
set_option maxRecDepth 65536 in
set_option maxHeartbeats 40000000 in
theorem x_loop {Z : State} {k : Cx} {M : Hp} {ia ib : Nat} {a b r : Addr} {va vb : List Int32} (d m : Nat) (rl : List Int32) (H : Ok Z k ({ frames := 0, cells := 1, slots := 8, locals := 0 } : Room) (fun v M' => ∃ r : Addr, v = some (.ref r) ∧ M' = (r, ArI Z .byte (List.zipWith xb va vb)) :: M) y_10 prog_29_method_7_code 4 (some (.array .byte))) (hia : M[ia]? = some (a, ArI Z .byte va)) (hib : M[ib]? = some (b, ArI Z .byte vb)) (ha : va.length = 8) (hb : vb.length = 8) (hr : rl.length = 8) (hm : m + d = 8) (hp : ∀ i, i < m → rl[i]? = some (xb (va.getD i 0) (vb.getD i 0))) : Go Z k 1 8 ((r, ArI Z .byte rl) :: M) 7 #[.val (.ref a), .val (.ref b), .val (.ref r), .val (.int m.toInt32)] [] := by
  induction d generalizing m rl with
  | zero =>
    refine s_iloadn H d10_7 rfl (pc' := 8) rfl ?_
    refine s_aloadn H d10_8 rfl rfl (pc' := 9) rfl ?_
    refine s_alenI H d10_9 (i := (ia + 1)) hia (z := va.length.toInt32) rfl (pc' := 10) rfl ?_
    refine s_icmp H d10_10 (py := 30) (pc' := 13) q_ge (by decide) rfl (fun c10 => ?_) (fun c10 => ?_)
    · refine s_aloadn H d10_30 rfl rfl (pc' := 31) rfl ?_
      exact s_aret H d10_31 rfl rfl (by decide) (by decide) (⟨r, rfl, by rw [own_zip ha hb hr (fun i hi => hp i (by omega))]⟩)
    · exact absurd ((own_le (by omega) (by omega)).mpr (by omega)) c10
  | succ d ih =>
    refine s_iloadn H d10_7 rfl (pc' := 8) rfl ?_
    refine s_aloadn H d10_8 rfl rfl (pc' := 9) rfl ?_
    refine s_alenI H d10_9 (i := (ia + 1)) hia (z := va.length.toInt32) rfl (pc' := 10) rfl ?_
    refine s_icmp H d10_10 (py := 30) (pc' := 13) q_ge (by decide) rfl (fun c10 => ?_) (fun c10 => ?_)
    · exact absurd ((own_le (by omega) (by omega)).mp c10) (by omega)
    · refine s_aloadn H d10_13 rfl rfl (pc' := 14) rfl ?_
      refine s_iloadn H d10_14 rfl (pc' := 15) rfl ?_
      refine s_aloadn H d10_15 rfl rfl (pc' := 16) rfl ?_
      refine s_iloadn H d10_16 rfl (pc' := 17) rfl ?_
      refine s_baload H d10_17 (i := (ia + 1)) hia (x := (va.getD m 0)) (own_nat (by omega)).2.1 (jn := m) (own_nat (by omega)).1 (getD_someI (by omega)) (pc' := 18) rfl ?_
      refine s_aloadn H d10_18 rfl rfl (pc' := 19) rfl ?_
      refine s_iloadn H d10_19 rfl (pc' := 20) rfl ?_
      refine s_baload H d10_20 (i := (ib + 1)) hib (x := (vb.getD m 0)) (own_nat (by omega)).2.1 (jn := m) (own_nat (by omega)).1 (getD_someI (by omega)) (pc' := 21) rfl ?_
      refine s_ixor H d10_21 (pc' := 22) rfl ?_
      refine s_i2b H d10_22 (pc' := 23) rfl ?_
      refine s_bastore H d10_23 (i := 0) rfl (own_nat (by omega)).2.1 (jn := m) (own_nat (by omega)).1 (by omega) (x := (xb (va.getD m 0) (vb.getD m 0))) (nar_i8 _).symm (pc' := 24) rfl ?_
      show Go Z k 1 8 ((r, ArI Z .byte (rl.set m (xb (va.getD m 0) (vb.getD m 0)))) :: M) 24 #[.val (.ref a), .val (.ref b), .val (.ref r), .val (.int m.toInt32)] []
      refine s_iinc H d10_24 rfl (u := (1 : Int32)) (by decide) (L' := fun z => #[.val (.ref a), .val (.ref b), .val (.ref r), .val (.int z)]) (fun _ => rfl) (pc' := 27) rfl (fun m2 h_m2 => ?_)
      refine s_goto H d10_27 (pc' := 7) (by decide) ?_
      rw [h_m2, own_succ]
      exact ih (m + 1) _ (by rw [List.length_set]; exact hr) (by omega) (fun i hi => own_set_get (f := fun i => xb (va.getD i 0) (vb.getD i 0)) hp (by omega) rfl hi)
set_option maxRecDepth 65536 in
set_option maxHeartbeats 40000000 in
theorem met_xor {Z : State} (HT : Tb Z) {M : Hp} {ia ib : Nat} (a b : Addr) (va vb : List Int32) (hia : M[ia]? = some (a, ArI Z .byte va)) (hib : M[ib]? = some (b, ArI Z .byte vb)) (ha : va.length = 8) (hb : vb.length = 8) : Met Z y_10 prog_29_method_7_code 4 (some (.array .byte)) ({ frames := 0, cells := 1, slots := 8, locals := 0 } : Room) [(.ref a), (.ref b)] (M) (fun v M' => ∃ r : Addr, v = some (.ref r) ∧ M' = (r, ArI Z .byte (List.zipWith xb va vb)) :: M) := by
  refine Met.of HT pl_10 (Ls := #[.val (.ref a), .val (.ref b), .unset, .unset]) (fun m => by first | (simp [entryFrame, mkF, argsToLocals, Value.category]; done) | rfl) (fun k H => ?_)
  refine s_aloadn H d10_0 rfl rfl (pc' := 1) rfl ?_
  refine s_alenI H d10_1 (i := ia) hia (z := va.length.toInt32) rfl (pc' := 2) rfl ?_
  rw [ha]
  refine s_newarr_byte H d10_2 (mem (i := 0) rfl) (by decide) (cap := 8) (by decide) (by decide) (cn' := 1) (sn' := 8) rfl rfl (by decide) (by decide) (pc' := 4) rfl (fun r => ?_)
  show Go Z k 1 8 ((r, ArI Z .byte (List.replicate 8 (0 : Int32))) :: M) 4 #[.val (.ref a), .val (.ref b), .unset, .unset] [(.ref r)]
  refine s_astoren H d10_4 (L' := #[.val (.ref a), .val (.ref b), .val (.ref r), .unset]) rfl rfl (pc' := 5) rfl ?_
  refine s_iconst H d10_5 (z := (0 : Int32)) (by decide) (pc' := 6) rfl ?_
  refine s_istoren H d10_6 (L' := fun z => #[.val (.ref a), .val (.ref b), .val (.ref r), .val (.int z)]) (fun _ => rfl) (pc' := 7) rfl (fun z0 hz => ?_)
  subst z0
  exact x_loop 8 0 _ H hia hib ha hb (by simp) (by omega) (fun i hi => absurd hi (Nat.not_lt_zero i))
set_option maxRecDepth 65536 in
set_option maxHeartbeats 40000000 in
theorem met_kc {Z : State} (HT : Tb Z) {M : Hp} {io ic ii : Nat} (o ck ik u0 u1 u2 u5 u6 u7 : Addr) (cl il : List Int32) (ho : M[io]? = some (o, Obj Z "com/example/quintet/quintet/Milenage$Outputs" [("com/example/quintet/quintet/Milenage$Outputs", "macA", "[B", (.ref u0)), ("com/example/quintet/quintet/Milenage$Outputs", "macS", "[B", (.ref u1)), ("com/example/quintet/quintet/Milenage$Outputs", "res", "[B", (.ref u2)), ("com/example/quintet/quintet/Milenage$Outputs", "ck", "[B", (.ref ck)), ("com/example/quintet/quintet/Milenage$Outputs", "ik", "[B", (.ref ik)), ("com/example/quintet/quintet/Milenage$Outputs", "ak", "[B", (.ref u5)), ("com/example/quintet/quintet/Milenage$Outputs", "akStar", "[B", (.ref u6)), ("com/example/quintet/quintet/Milenage$Outputs", "autn", "[B", (.ref u7))])) (hc : M[ic]? = some (ck, ArI Z .byte cl)) (hi : M[ii]? = some (ik, ArI Z .byte il)) (lc : cl.length = 16) (li : il.length = 16) : Met Z y_5 prog_30_method_3_code 1 (some (.array .byte)) ({ frames := 3, cells := 7, slots := 56, locals := 72 } : Room) [(.ref o)] (M) (fun v M' => ∃ (r : Addr) (F' : Hp), v = some (.ref r) ∧ M' = (r, ArI Z .byte (List.zipWith xb (List.zipWith xb ((cl.drop 0).take 8) ((cl.drop 8).take 8)) (List.zipWith xb ((il.drop 0).take 8) ((il.drop 8).take 8)))) :: F' ++ M) := by
  refine Met.of HT pl_5 (Ls := #[.val (.ref o)]) (fun m => by first | (simp [entryFrame, mkF, argsToLocals, Value.category]; done) | rfl) (fun k H => ?_)
  refine s_aloadn H d5_0 rfl rfl (pc' := 1) rfl ?_
  refine s_getf H d5_1 (mem (i := 25) rfl) (i := io) (j := 3) ho rfl (pc' := 4) rfl ?_
  refine s_iconst H d5_4 (z := (0 : Int32)) (by decide) (pc' := 5) rfl ?_
  refine s_bipush H d5_5 (z := (8 : Int32)) (by decide) (pc' := 7) rfl ?_
  refine s_static H (met_cr H.tb (i := ic) ck cl 0 8 hc lc (by decide) (by decide) (by decide)) d5_7 (mem (i := 40) rfl) (mem (i := 41) rfl) (mem (i := 42) rfl) (mem (i := 43) rfl) (by decide) pd_6 rfl (rest := []) rfl rfl (by decide) (Nat.le_of_ble_eq_true rfl) (cn' := 1) (sn' := 8) rfl rfl (by decide) (by decide) (pc' := 10) rfl (fun v0 M0 hq => ?_)
  obtain ⟨r1, rfl, hm0⟩ := hq
  subst M0
  show Go Z k 1 8 ((r1, ArI Z .byte ((cl.drop 0).take 8)) :: M) 10 #[.val (.ref o)] [(.ref r1)]
  refine s_aloadn H d5_10 rfl rfl (pc' := 11) rfl ?_
  refine s_getf H d5_11 (mem (i := 25) rfl) (i := (io + 1)) (j := 3) ho rfl (pc' := 14) rfl ?_
  refine s_bipush H d5_14 (z := (8 : Int32)) (by decide) (pc' := 16) rfl ?_
  refine s_bipush H d5_16 (z := (16 : Int32)) (by decide) (pc' := 18) rfl ?_
  refine s_static H (met_cr H.tb (i := (ic + 1)) ck cl 8 16 hc lc (by decide) (by decide) (by decide)) d5_18 (mem (i := 40) rfl) (mem (i := 41) rfl) (mem (i := 42) rfl) (mem (i := 43) rfl) (by decide) pd_6 rfl (rest := [(.ref r1)]) rfl rfl (by decide) (Nat.le_of_ble_eq_true rfl) (cn' := 2) (sn' := 16) rfl rfl (by decide) (by decide) (pc' := 21) rfl (fun v0 M0 hq => ?_)
  obtain ⟨r2, rfl, hm0⟩ := hq
  subst M0
  show Go Z k 2 16 ((r2, ArI Z .byte ((cl.drop 8).take 8)) :: (r1, ArI Z .byte ((cl.drop 0).take 8)) :: M) 21 #[.val (.ref o)] [(.ref r2), (.ref r1)]
  refine s_staticN H (met_xor H.tb (ia := 1) (ib := 0) r1 r2 ((cl.drop 0).take 8) ((cl.drop 8).take 8) rfl rfl (by simp [lc, li]) (by simp [lc, li])) d5_21 (mem (i := 58) rfl) (mem (i := 59) rfl) (mem (i := 60) rfl) (mem (i := 61) rfl) (by decide) pd_10 rfl (rest := []) rfl rfl (by decide) (Nat.le_of_ble_eq_true rfl) (cn' := 3) (sn' := 24) rfl rfl (by decide) (by decide) (pc' := 24) rfl (fun v0 M0 hq => ?_)
  obtain ⟨r3, rfl, hm0⟩ := hq
  subst M0
  show Go Z k 3 24 ((r3, ArI Z .byte (List.zipWith xb ((cl.drop 0).take 8) ((cl.drop 8).take 8))) :: (r2, ArI Z .byte ((cl.drop 8).take 8)) :: (r1, ArI Z .byte ((cl.drop 0).take 8)) :: M) 24 #[.val (.ref o)] [(.ref r3)]
  refine s_aloadn H d5_24 rfl rfl (pc' := 25) rfl ?_
  refine s_getf H d5_25 (mem (i := 27) rfl) (i := (io + 3)) (j := 4) ho rfl (pc' := 28) rfl ?_
  refine s_iconst H d5_28 (z := (0 : Int32)) (by decide) (pc' := 29) rfl ?_
  refine s_bipush H d5_29 (z := (8 : Int32)) (by decide) (pc' := 31) rfl ?_
  refine s_static H (met_cr H.tb (i := (ii + 3)) ik il 0 8 hi li (by decide) (by decide) (by decide)) d5_31 (mem (i := 40) rfl) (mem (i := 41) rfl) (mem (i := 42) rfl) (mem (i := 43) rfl) (by decide) pd_6 rfl (rest := [(.ref r3)]) rfl rfl (by decide) (Nat.le_of_ble_eq_true rfl) (cn' := 4) (sn' := 32) rfl rfl (by decide) (by decide) (pc' := 34) rfl (fun v0 M0 hq => ?_)
  obtain ⟨r4, rfl, hm0⟩ := hq
  subst M0
  show Go Z k 4 32 ((r4, ArI Z .byte ((il.drop 0).take 8)) :: (r3, ArI Z .byte (List.zipWith xb ((cl.drop 0).take 8) ((cl.drop 8).take 8))) :: (r2, ArI Z .byte ((cl.drop 8).take 8)) :: (r1, ArI Z .byte ((cl.drop 0).take 8)) :: M) 34 #[.val (.ref o)] [(.ref r4), (.ref r3)]
  refine s_aloadn H d5_34 rfl rfl (pc' := 35) rfl ?_
  refine s_getf H d5_35 (mem (i := 27) rfl) (i := (io + 4)) (j := 4) ho rfl (pc' := 38) rfl ?_
  refine s_bipush H d5_38 (z := (8 : Int32)) (by decide) (pc' := 40) rfl ?_
  refine s_bipush H d5_40 (z := (16 : Int32)) (by decide) (pc' := 42) rfl ?_
  refine s_static H (met_cr H.tb (i := (ii + 4)) ik il 8 16 hi li (by decide) (by decide) (by decide)) d5_42 (mem (i := 40) rfl) (mem (i := 41) rfl) (mem (i := 42) rfl) (mem (i := 43) rfl) (by decide) pd_6 rfl (rest := [(.ref r4), (.ref r3)]) rfl rfl (by decide) (Nat.le_of_ble_eq_true rfl) (cn' := 5) (sn' := 40) rfl rfl (by decide) (by decide) (pc' := 45) rfl (fun v0 M0 hq => ?_)
  obtain ⟨r5, rfl, hm0⟩ := hq
  subst M0
  show Go Z k 5 40 ((r5, ArI Z .byte ((il.drop 8).take 8)) :: (r4, ArI Z .byte ((il.drop 0).take 8)) :: (r3, ArI Z .byte (List.zipWith xb ((cl.drop 0).take 8) ((cl.drop 8).take 8))) :: (r2, ArI Z .byte ((cl.drop 8).take 8)) :: (r1, ArI Z .byte ((cl.drop 0).take 8)) :: M) 45 #[.val (.ref o)] [(.ref r5), (.ref r4), (.ref r3)]
  refine s_staticN H (met_xor H.tb (ia := 1) (ib := 0) r4 r5 ((il.drop 0).take 8) ((il.drop 8).take 8) rfl rfl (by simp [lc, li]) (by simp [lc, li])) d5_45 (mem (i := 58) rfl) (mem (i := 59) rfl) (mem (i := 60) rfl) (mem (i := 61) rfl) (by decide) pd_10 rfl (rest := [(.ref r3)]) rfl rfl (by decide) (Nat.le_of_ble_eq_true rfl) (cn' := 6) (sn' := 48) rfl rfl (by decide) (by decide) (pc' := 48) rfl (fun v0 M0 hq => ?_)
  obtain ⟨r6, rfl, hm0⟩ := hq
  subst M0
  show Go Z k 6 48 ((r6, ArI Z .byte (List.zipWith xb ((il.drop 0).take 8) ((il.drop 8).take 8))) :: (r5, ArI Z .byte ((il.drop 8).take 8)) :: (r4, ArI Z .byte ((il.drop 0).take 8)) :: (r3, ArI Z .byte (List.zipWith xb ((cl.drop 0).take 8) ((cl.drop 8).take 8))) :: (r2, ArI Z .byte ((cl.drop 8).take 8)) :: (r1, ArI Z .byte ((cl.drop 0).take 8)) :: M) 48 #[.val (.ref o)] [(.ref r6), (.ref r3)]
  refine s_staticN H (met_xor H.tb (ia := 3) (ib := 0) r3 r6 (List.zipWith xb ((cl.drop 0).take 8) ((cl.drop 8).take 8)) (List.zipWith xb ((il.drop 0).take 8) ((il.drop 8).take 8)) rfl rfl (by simp [lc, li]) (by simp [lc, li])) d5_48 (mem (i := 58) rfl) (mem (i := 59) rfl) (mem (i := 60) rfl) (mem (i := 61) rfl) (by decide) pd_10 rfl (rest := []) rfl rfl (by decide) (Nat.le_of_ble_eq_true rfl) (cn' := 7) (sn' := 56) rfl rfl (by decide) (by decide) (pc' := 51) rfl (fun v0 M0 hq => ?_)
  obtain ⟨r7, rfl, hm0⟩ := hq
  subst M0
  show Go Z k 7 56 ((r7, ArI Z .byte (List.zipWith xb (List.zipWith xb ((cl.drop 0).take 8) ((cl.drop 8).take 8)) (List.zipWith xb ((il.drop 0).take 8) ((il.drop 8).take 8)))) :: (r6, ArI Z .byte (List.zipWith xb ((il.drop 0).take 8) ((il.drop 8).take 8))) :: (r5, ArI Z .byte ((il.drop 8).take 8)) :: (r4, ArI Z .byte ((il.drop 0).take 8)) :: (r3, ArI Z .byte (List.zipWith xb ((cl.drop 0).take 8) ((cl.drop 8).take 8))) :: (r2, ArI Z .byte ((cl.drop 8).take 8)) :: (r1, ArI Z .byte ((cl.drop 0).take 8)) :: M) 51 #[.val (.ref o)] [(.ref r7)]
  exact s_aret H d5_51 rfl rfl (by decide) (by decide) (⟨r7, [(r6, ArI Z .byte (List.zipWith xb ((il.drop 0).take 8) ((il.drop 8).take 8))), (r5, ArI Z .byte ((il.drop 8).take 8)), (r4, ArI Z .byte ((il.drop 0).take 8)), (r3, ArI Z .byte (List.zipWith xb ((cl.drop 0).take 8) ((cl.drop 8).take 8))), (r2, ArI Z .byte ((cl.drop 8).take 8)), (r1, ArI Z .byte ((cl.drop 0).take 8))], rfl, rfl⟩)
set_option maxRecDepth 65536 in
set_option maxHeartbeats 40000000 in
theorem met_get0 {Z : State} (HT : Tb Z) {M : Hp} {i : Nat} (a : Addr) (vs : List Int32) (x7 x6 x5 x4 x3 x2 x1 x0 : Int32) (hi : M[i]? = some (a, ArI Z .byte vs)) (k0 : vs[0]? = some x7) (k1 : vs[1]? = some x6) (k2 : vs[2]? = some x5) (k3 : vs[3]? = some x4) (k4 : vs[4]? = some x3) (k5 : vs[5]? = some x2) (k6 : vs[6]? = some x1) (k7 : vs[7]? = some x0) : Met Z y_11 method_4_code 2 (some .long) ({ frames := 0, cells := 0, slots := 0, locals := 0 } : Room) [(.ref a), (.int (0 : Int32))] (M) (fun v M' => v = some (.long (g8 x7 x6 x5 x4 x3 x2 x1 x0)) ∧ M' = M) := by
  refine Met.of HT pl_11 (Ls := #[.val (.ref a), .val (.int (0 : Int32))]) (fun m => by first | (simp [entryFrame, mkF, argsToLocals, Value.category]; done) | rfl) (fun k H => ?_)
  refine s_aloadn H d11_0 rfl rfl (pc' := 1) rfl ?_
  refine s_iloadn H d11_1 rfl (pc' := 2) rfl ?_
  refine s_baload H d11_2 (i := i) hi (x := x7) (by decide) (jn := 0) (by decide) k0 (pc' := 3) rfl ?_
  refine s_sipush H d11_3 (z := (255 : Int32)) (by decide) (pc' := 6) rfl ?_
  refine s_iand H d11_6 (pc' := 7) rfl ?_
  refine s_i2l H d11_7 (pc' := 8) rfl ?_
  refine s_bipush H d11_8 (z := (56 : Int32)) (by decide) (pc' := 10) rfl ?_
  refine s_lshl H d11_10 (pc' := 11) rfl ?_
  refine s_aloadn H d11_11 rfl rfl (pc' := 12) rfl ?_
  refine s_iloadn H d11_12 rfl (pc' := 13) rfl ?_
  refine s_iconst H d11_13 (z := (1 : Int32)) (by decide) (pc' := 14) rfl ?_
  refine s_iadd H d11_14 (pc' := 15) rfl ?_
  refine s_baload H d11_15 (i := i) hi (x := x6) (by decide) (jn := 1) (by decide) k1 (pc' := 16) rfl ?_
  refine s_sipush H d11_16 (z := (255 : Int32)) (by decide) (pc' := 19) rfl ?_
  refine s_iand H d11_19 (pc' := 20) rfl ?_
  refine s_i2l H d11_20 (pc' := 21) rfl ?_
  refine s_bipush H d11_21 (z := (48 : Int32)) (by decide) (pc' := 23) rfl ?_
  refine s_lshl H d11_23 (pc' := 24) rfl ?_
  refine s_lor H d11_24 (pc' := 25) rfl ?_
  refine s_aloadn H d11_25 rfl rfl (pc' := 26) rfl ?_
  refine s_iloadn H d11_26 rfl (pc' := 27) rfl ?_
  refine s_iconst H d11_27 (z := (2 : Int32)) (by decide) (pc' := 28) rfl ?_
  refine s_iadd H d11_28 (pc' := 29) rfl ?_
  refine s_baload H d11_29 (i := i) hi (x := x5) (by decide) (jn := 2) (by decide) k2 (pc' := 30) rfl ?_
  refine s_sipush H d11_30 (z := (255 : Int32)) (by decide) (pc' := 33) rfl ?_
  refine s_iand H d11_33 (pc' := 34) rfl ?_
  refine s_i2l H d11_34 (pc' := 35) rfl ?_
  refine s_bipush H d11_35 (z := (40 : Int32)) (by decide) (pc' := 37) rfl ?_
  refine s_lshl H d11_37 (pc' := 38) rfl ?_
  refine s_lor H d11_38 (pc' := 39) rfl ?_
  refine s_aloadn H d11_39 rfl rfl (pc' := 40) rfl ?_
  refine s_iloadn H d11_40 rfl (pc' := 41) rfl ?_
  refine s_iconst H d11_41 (z := (3 : Int32)) (by decide) (pc' := 42) rfl ?_
  refine s_iadd H d11_42 (pc' := 43) rfl ?_
  refine s_baload H d11_43 (i := i) hi (x := x4) (by decide) (jn := 3) (by decide) k3 (pc' := 44) rfl ?_
  refine s_sipush H d11_44 (z := (255 : Int32)) (by decide) (pc' := 47) rfl ?_
  refine s_iand H d11_47 (pc' := 48) rfl ?_
  refine s_i2l H d11_48 (pc' := 49) rfl ?_
  refine s_bipush H d11_49 (z := (32 : Int32)) (by decide) (pc' := 51) rfl ?_
  refine s_lshl H d11_51 (pc' := 52) rfl ?_
  refine s_lor H d11_52 (pc' := 53) rfl ?_
  refine s_aloadn H d11_53 rfl rfl (pc' := 54) rfl ?_
  refine s_iloadn H d11_54 rfl (pc' := 55) rfl ?_
  refine s_iconst H d11_55 (z := (4 : Int32)) (by decide) (pc' := 56) rfl ?_
  refine s_iadd H d11_56 (pc' := 57) rfl ?_
  refine s_baload H d11_57 (i := i) hi (x := x3) (by decide) (jn := 4) (by decide) k4 (pc' := 58) rfl ?_
  refine s_sipush H d11_58 (z := (255 : Int32)) (by decide) (pc' := 61) rfl ?_
  refine s_iand H d11_61 (pc' := 62) rfl ?_
  refine s_i2l H d11_62 (pc' := 63) rfl ?_
  refine s_bipush H d11_63 (z := (24 : Int32)) (by decide) (pc' := 65) rfl ?_
  refine s_lshl H d11_65 (pc' := 66) rfl ?_
  refine s_lor H d11_66 (pc' := 67) rfl ?_
  refine s_aloadn H d11_67 rfl rfl (pc' := 68) rfl ?_
  refine s_iloadn H d11_68 rfl (pc' := 69) rfl ?_
  refine s_iconst H d11_69 (z := (5 : Int32)) (by decide) (pc' := 70) rfl ?_
  refine s_iadd H d11_70 (pc' := 71) rfl ?_
  refine s_baload H d11_71 (i := i) hi (x := x2) (by decide) (jn := 5) (by decide) k5 (pc' := 72) rfl ?_
  refine s_sipush H d11_72 (z := (255 : Int32)) (by decide) (pc' := 75) rfl ?_
  refine s_iand H d11_75 (pc' := 76) rfl ?_
  refine s_i2l H d11_76 (pc' := 77) rfl ?_
  refine s_bipush H d11_77 (z := (16 : Int32)) (by decide) (pc' := 79) rfl ?_
  refine s_lshl H d11_79 (pc' := 80) rfl ?_
  refine s_lor H d11_80 (pc' := 81) rfl ?_
  refine s_aloadn H d11_81 rfl rfl (pc' := 82) rfl ?_
  refine s_iloadn H d11_82 rfl (pc' := 83) rfl ?_
  refine s_bipush H d11_83 (z := (6 : Int32)) (by decide) (pc' := 85) rfl ?_
  refine s_iadd H d11_85 (pc' := 86) rfl ?_
  refine s_baload H d11_86 (i := i) hi (x := x1) (by decide) (jn := 6) (by decide) k6 (pc' := 87) rfl ?_
  refine s_sipush H d11_87 (z := (255 : Int32)) (by decide) (pc' := 90) rfl ?_
  refine s_iand H d11_90 (pc' := 91) rfl ?_
  refine s_i2l H d11_91 (pc' := 92) rfl ?_
  refine s_bipush H d11_92 (z := (8 : Int32)) (by decide) (pc' := 94) rfl ?_
  refine s_lshl H d11_94 (pc' := 95) rfl ?_
  refine s_lor H d11_95 (pc' := 96) rfl ?_
  refine s_aloadn H d11_96 rfl rfl (pc' := 97) rfl ?_
  refine s_iloadn H d11_97 rfl (pc' := 98) rfl ?_
  refine s_bipush H d11_98 (z := (7 : Int32)) (by decide) (pc' := 100) rfl ?_
  refine s_iadd H d11_100 (pc' := 101) rfl ?_
  refine s_baload H d11_101 (i := i) hi (x := x0) (by decide) (jn := 7) (by decide) k7 (pc' := 102) rfl ?_
  refine s_sipush H d11_102 (z := (255 : Int32)) (by decide) (pc' := 105) rfl ?_
  refine s_iand H d11_105 (pc' := 106) rfl ?_
  refine s_i2l H d11_106 (pc' := 107) rfl ?_
  refine s_lor H d11_107 (pc' := 108) rfl ?_
  exact s_lret H d11_108 (by decide) (by decide) (⟨rfl, rfl⟩)
set_option maxRecDepth 65536 in
set_option maxHeartbeats 40000000 in
theorem met_get8 {Z : State} (HT : Tb Z) {M : Hp} {i : Nat} (a : Addr) (vs : List Int32) (x7 x6 x5 x4 x3 x2 x1 x0 : Int32) (hi : M[i]? = some (a, ArI Z .byte vs)) (k0 : vs[8]? = some x7) (k1 : vs[9]? = some x6) (k2 : vs[10]? = some x5) (k3 : vs[11]? = some x4) (k4 : vs[12]? = some x3) (k5 : vs[13]? = some x2) (k6 : vs[14]? = some x1) (k7 : vs[15]? = some x0) : Met Z y_11 method_4_code 2 (some .long) ({ frames := 0, cells := 0, slots := 0, locals := 0 } : Room) [(.ref a), (.int (8 : Int32))] (M) (fun v M' => v = some (.long (g8 x7 x6 x5 x4 x3 x2 x1 x0)) ∧ M' = M) := by
  refine Met.of HT pl_11 (Ls := #[.val (.ref a), .val (.int (8 : Int32))]) (fun m => by first | (simp [entryFrame, mkF, argsToLocals, Value.category]; done) | rfl) (fun k H => ?_)
  refine s_aloadn H d11_0 rfl rfl (pc' := 1) rfl ?_
  refine s_iloadn H d11_1 rfl (pc' := 2) rfl ?_
  refine s_baload H d11_2 (i := i) hi (x := x7) (by decide) (jn := 8) (by decide) k0 (pc' := 3) rfl ?_
  refine s_sipush H d11_3 (z := (255 : Int32)) (by decide) (pc' := 6) rfl ?_
  refine s_iand H d11_6 (pc' := 7) rfl ?_
  refine s_i2l H d11_7 (pc' := 8) rfl ?_
  refine s_bipush H d11_8 (z := (56 : Int32)) (by decide) (pc' := 10) rfl ?_
  refine s_lshl H d11_10 (pc' := 11) rfl ?_
  refine s_aloadn H d11_11 rfl rfl (pc' := 12) rfl ?_
  refine s_iloadn H d11_12 rfl (pc' := 13) rfl ?_
  refine s_iconst H d11_13 (z := (1 : Int32)) (by decide) (pc' := 14) rfl ?_
  refine s_iadd H d11_14 (pc' := 15) rfl ?_
  refine s_baload H d11_15 (i := i) hi (x := x6) (by decide) (jn := 9) (by decide) k1 (pc' := 16) rfl ?_
  refine s_sipush H d11_16 (z := (255 : Int32)) (by decide) (pc' := 19) rfl ?_
  refine s_iand H d11_19 (pc' := 20) rfl ?_
  refine s_i2l H d11_20 (pc' := 21) rfl ?_
  refine s_bipush H d11_21 (z := (48 : Int32)) (by decide) (pc' := 23) rfl ?_
  refine s_lshl H d11_23 (pc' := 24) rfl ?_
  refine s_lor H d11_24 (pc' := 25) rfl ?_
  refine s_aloadn H d11_25 rfl rfl (pc' := 26) rfl ?_
  refine s_iloadn H d11_26 rfl (pc' := 27) rfl ?_
  refine s_iconst H d11_27 (z := (2 : Int32)) (by decide) (pc' := 28) rfl ?_
  refine s_iadd H d11_28 (pc' := 29) rfl ?_
  refine s_baload H d11_29 (i := i) hi (x := x5) (by decide) (jn := 10) (by decide) k2 (pc' := 30) rfl ?_
  refine s_sipush H d11_30 (z := (255 : Int32)) (by decide) (pc' := 33) rfl ?_
  refine s_iand H d11_33 (pc' := 34) rfl ?_
  refine s_i2l H d11_34 (pc' := 35) rfl ?_
  refine s_bipush H d11_35 (z := (40 : Int32)) (by decide) (pc' := 37) rfl ?_
  refine s_lshl H d11_37 (pc' := 38) rfl ?_
  refine s_lor H d11_38 (pc' := 39) rfl ?_
  refine s_aloadn H d11_39 rfl rfl (pc' := 40) rfl ?_
  refine s_iloadn H d11_40 rfl (pc' := 41) rfl ?_
  refine s_iconst H d11_41 (z := (3 : Int32)) (by decide) (pc' := 42) rfl ?_
  refine s_iadd H d11_42 (pc' := 43) rfl ?_
  refine s_baload H d11_43 (i := i) hi (x := x4) (by decide) (jn := 11) (by decide) k3 (pc' := 44) rfl ?_
  refine s_sipush H d11_44 (z := (255 : Int32)) (by decide) (pc' := 47) rfl ?_
  refine s_iand H d11_47 (pc' := 48) rfl ?_
  refine s_i2l H d11_48 (pc' := 49) rfl ?_
  refine s_bipush H d11_49 (z := (32 : Int32)) (by decide) (pc' := 51) rfl ?_
  refine s_lshl H d11_51 (pc' := 52) rfl ?_
  refine s_lor H d11_52 (pc' := 53) rfl ?_
  refine s_aloadn H d11_53 rfl rfl (pc' := 54) rfl ?_
  refine s_iloadn H d11_54 rfl (pc' := 55) rfl ?_
  refine s_iconst H d11_55 (z := (4 : Int32)) (by decide) (pc' := 56) rfl ?_
  refine s_iadd H d11_56 (pc' := 57) rfl ?_
  refine s_baload H d11_57 (i := i) hi (x := x3) (by decide) (jn := 12) (by decide) k4 (pc' := 58) rfl ?_
  refine s_sipush H d11_58 (z := (255 : Int32)) (by decide) (pc' := 61) rfl ?_
  refine s_iand H d11_61 (pc' := 62) rfl ?_
  refine s_i2l H d11_62 (pc' := 63) rfl ?_
  refine s_bipush H d11_63 (z := (24 : Int32)) (by decide) (pc' := 65) rfl ?_
  refine s_lshl H d11_65 (pc' := 66) rfl ?_
  refine s_lor H d11_66 (pc' := 67) rfl ?_
  refine s_aloadn H d11_67 rfl rfl (pc' := 68) rfl ?_
  refine s_iloadn H d11_68 rfl (pc' := 69) rfl ?_
  refine s_iconst H d11_69 (z := (5 : Int32)) (by decide) (pc' := 70) rfl ?_
  refine s_iadd H d11_70 (pc' := 71) rfl ?_
  refine s_baload H d11_71 (i := i) hi (x := x2) (by decide) (jn := 13) (by decide) k5 (pc' := 72) rfl ?_
  refine s_sipush H d11_72 (z := (255 : Int32)) (by decide) (pc' := 75) rfl ?_
  refine s_iand H d11_75 (pc' := 76) rfl ?_
  refine s_i2l H d11_76 (pc' := 77) rfl ?_
  refine s_bipush H d11_77 (z := (16 : Int32)) (by decide) (pc' := 79) rfl ?_
  refine s_lshl H d11_79 (pc' := 80) rfl ?_
  refine s_lor H d11_80 (pc' := 81) rfl ?_
  refine s_aloadn H d11_81 rfl rfl (pc' := 82) rfl ?_
  refine s_iloadn H d11_82 rfl (pc' := 83) rfl ?_
  refine s_bipush H d11_83 (z := (6 : Int32)) (by decide) (pc' := 85) rfl ?_
  refine s_iadd H d11_85 (pc' := 86) rfl ?_
  refine s_baload H d11_86 (i := i) hi (x := x1) (by decide) (jn := 14) (by decide) k6 (pc' := 87) rfl ?_
  refine s_sipush H d11_87 (z := (255 : Int32)) (by decide) (pc' := 90) rfl ?_
  refine s_iand H d11_90 (pc' := 91) rfl ?_
  refine s_i2l H d11_91 (pc' := 92) rfl ?_
  refine s_bipush H d11_92 (z := (8 : Int32)) (by decide) (pc' := 94) rfl ?_
  refine s_lshl H d11_94 (pc' := 95) rfl ?_
  refine s_lor H d11_95 (pc' := 96) rfl ?_
  refine s_aloadn H d11_96 rfl rfl (pc' := 97) rfl ?_
  refine s_iloadn H d11_97 rfl (pc' := 98) rfl ?_
  refine s_bipush H d11_98 (z := (7 : Int32)) (by decide) (pc' := 100) rfl ?_
  refine s_iadd H d11_100 (pc' := 101) rfl ?_
  refine s_baload H d11_101 (i := i) hi (x := x0) (by decide) (jn := 15) (by decide) k7 (pc' := 102) rfl ?_
  refine s_sipush H d11_102 (z := (255 : Int32)) (by decide) (pc' := 105) rfl ?_
  refine s_iand H d11_105 (pc' := 106) rfl ?_
  refine s_i2l H d11_106 (pc' := 107) rfl ?_
  refine s_lor H d11_107 (pc' := 108) rfl ?_
  exact s_lret H d11_108 (by decide) (by decide) (⟨rfl, rfl⟩)
set_option maxRecDepth 65536 in
set_option maxHeartbeats 40000000 in
theorem s0 {Z : State} {k : Cx} {i0 i1 i2 i3 : Int64} (H : Ok Z k room_1 (LQ) x code maxLocals ret)  : Go Z k 0 0 ([] : Hp) 0 #[.val (.long i0), .second, .val (.long i1), .second, .val (.long i2), .second, .val (.long i3), .second, .unset, .unset, .unset, .unset, .unset, .unset] [] := by
  refine s_bipush H at_0 (z := (16 : Int32)) (by decide) (pc' := 2) rfl ?_
  refine s_newarr_byte H at_2 (mem (i := 0) rfl) (by decide) (cap := 16) (by decide) (by decide) (cn' := 1) (sn' := 16) rfl rfl (by decide) (by decide) (pc' := 4) rfl (fun ck => ?_)
  show Go Z k 1 16 ((ck, ArI Z .byte ([(0 : Int32), (0 : Int32), (0 : Int32), (0 : Int32), (0 : Int32), (0 : Int32), (0 : Int32), (0 : Int32), (0 : Int32), (0 : Int32), (0 : Int32), (0 : Int32), (0 : Int32), (0 : Int32), (0 : Int32), (0 : Int32)] : List Int32)) :: []) 4 #[.val (.long i0), .second, .val (.long i1), .second, .val (.long i2), .second, .val (.long i3), .second, .unset, .unset, .unset, .unset, .unset, .unset] [(.ref ck)]
  refine s_astore H at_4 (L' := #[.val (.long i0), .second, .val (.long i1), .second, .val (.long i2), .second, .val (.long i3), .second, .val (.ref ck), .unset, .unset, .unset, .unset, .unset]) rfl rfl (pc' := 6) rfl ?_
  refine s_bipush H at_6 (z := (16 : Int32)) (by decide) (pc' := 8) rfl ?_
  refine s_newarr_byte H at_8 (mem (i := 0) rfl) (by decide) (cap := 16) (by decide) (by decide) (cn' := 2) (sn' := 32) rfl rfl (by decide) (by decide) (pc' := 10) rfl (fun ik => ?_)
  show Go Z k 2 32 ((ik, ArI Z .byte ([(0 : Int32), (0 : Int32), (0 : Int32), (0 : Int32), (0 : Int32), (0 : Int32), (0 : Int32), (0 : Int32), (0 : Int32), (0 : Int32), (0 : Int32), (0 : Int32), (0 : Int32), (0 : Int32), (0 : Int32), (0 : Int32)] : List Int32)) :: (ck, ArI Z .byte ([(0 : Int32), (0 : Int32), (0 : Int32), (0 : Int32), (0 : Int32), (0 : Int32), (0 : Int32), (0 : Int32), (0 : Int32), (0 : Int32), (0 : Int32), (0 : Int32), (0 : Int32), (0 : Int32), (0 : Int32), (0 : Int32)] : List Int32)) :: []) 10 #[.val (.long i0), .second, .val (.long i1), .second, .val (.long i2), .second, .val (.long i3), .second, .val (.ref ck), .unset, .unset, .unset, .unset, .unset] [(.ref ik)]
  refine s_astore H at_10 (L' := #[.val (.long i0), .second, .val (.long i1), .second, .val (.long i2), .second, .val (.long i3), .second, .val (.ref ck), .val (.ref ik), .unset, .unset, .unset, .unset]) rfl rfl (pc' := 12) rfl ?_
  refine s_aload H at_12 rfl rfl (pc' := 14) rfl ?_
  refine s_iconst H at_14 (z := (0 : Int32)) (by decide) (pc' := 15) rfl ?_
  refine s_lloadn H at_15 rfl (pc' := 16) rfl ?_
  refine s_static H (met_put_0_1 H.tb ck ik (ArI Z .byte ([(0 : Int32), (0 : Int32), (0 : Int32), (0 : Int32), (0 : Int32), (0 : Int32), (0 : Int32), (0 : Int32), (0 : Int32), (0 : Int32), (0 : Int32), (0 : Int32), (0 : Int32), (0 : Int32), (0 : Int32), (0 : Int32)] : List Int32)) i0 (0 : Int32) (0 : Int32) (0 : Int32) (0 : Int32) (0 : Int32) (0 : Int32) (0 : Int32) (0 : Int32) (0 : Int32) (0 : Int32) (0 : Int32) (0 : Int32) (0 : Int32) (0 : Int32) (0 : Int32) (0 : Int32)) at_16 (mem (i := 1) rfl) (mem (i := 2) rfl) (mem (i := 3) rfl) (mem (i := 4) rfl) (by decide) pd_1 rfl (rest := []) rfl rfl (by decide) (Nat.le_of_ble_eq_true rfl) (cn' := 2) (sn' := 32) rfl rfl (by decide) (by decide) (pc' := 19) rfl (fun v0 M0 hq => ?_)
  obtain ⟨rfl, hm0⟩ := hq
  subst M0
  show Go Z k 2 32 ((ik, ArI Z .byte ([(0 : Int32), (0 : Int32), (0 : Int32), (0 : Int32), (0 : Int32), (0 : Int32), (0 : Int32), (0 : Int32), (0 : Int32), (0 : Int32), (0 : Int32), (0 : Int32), (0 : Int32), (0 : Int32), (0 : Int32), (0 : Int32)] : List Int32)) :: (ck, ArI Z .byte ([(pb56 i0), (pb48 i0), (pb40 i0), (pb32 i0), (pb24 i0), (pb16 i0), (pb8 i0), (pb0 i0), (0 : Int32), (0 : Int32), (0 : Int32), (0 : Int32), (0 : Int32), (0 : Int32), (0 : Int32), (0 : Int32)] : List Int32)) :: []) 19 #[.val (.long i0), .second, .val (.long i1), .second, .val (.long i2), .second, .val (.long i3), .second, .val (.ref ck), .val (.ref ik), .unset, .unset, .unset, .unset] []
  refine s_aload H at_19 rfl rfl (pc' := 21) rfl ?_
  refine s_bipush H at_21 (z := (8 : Int32)) (by decide) (pc' := 23) rfl ?_
  refine s_lloadn H at_23 rfl (pc' := 24) rfl ?_
  refine s_static H (met_put_8_1 H.tb ck ik (ArI Z .byte ([(0 : Int32), (0 : Int32), (0 : Int32), (0 : Int32), (0 : Int32), (0 : Int32), (0 : Int32), (0 : Int32), (0 : Int32), (0 : Int32), (0 : Int32), (0 : Int32), (0 : Int32), (0 : Int32), (0 : Int32), (0 : Int32)] : List Int32)) i1 (pb56 i0) (pb48 i0) (pb40 i0) (pb32 i0) (pb24 i0) (pb16 i0) (pb8 i0) (pb0 i0) (0 : Int32) (0 : Int32) (0 : Int32) (0 : Int32) (0 : Int32) (0 : Int32) (0 : Int32) (0 : Int32)) at_24 (mem (i := 1) rfl) (mem (i := 2) rfl) (mem (i := 3) rfl) (mem (i := 4) rfl) (by decide) pd_1 rfl (rest := []) rfl rfl (by decide) (Nat.le_of_ble_eq_true rfl) (cn' := 2) (sn' := 32) rfl rfl (by decide) (by decide) (pc' := 27) rfl (fun v0 M0 hq => ?_)
  obtain ⟨rfl, hm0⟩ := hq
  subst M0
  show Go Z k 2 32 ((ik, ArI Z .byte ([(0 : Int32), (0 : Int32), (0 : Int32), (0 : Int32), (0 : Int32), (0 : Int32), (0 : Int32), (0 : Int32), (0 : Int32), (0 : Int32), (0 : Int32), (0 : Int32), (0 : Int32), (0 : Int32), (0 : Int32), (0 : Int32)] : List Int32)) :: (ck, ArI Z .byte ([(pb56 i0), (pb48 i0), (pb40 i0), (pb32 i0), (pb24 i0), (pb16 i0), (pb8 i0), (pb0 i0), (pb56 i1), (pb48 i1), (pb40 i1), (pb32 i1), (pb24 i1), (pb16 i1), (pb8 i1), (pb0 i1)] : List Int32)) :: []) 27 #[.val (.long i0), .second, .val (.long i1), .second, .val (.long i2), .second, .val (.long i3), .second, .val (.ref ck), .val (.ref ik), .unset, .unset, .unset, .unset] []
  refine s_aload H at_27 rfl rfl (pc' := 29) rfl ?_
  refine s_iconst H at_29 (z := (0 : Int32)) (by decide) (pc' := 30) rfl ?_
  refine s_lload H at_30 rfl (pc' := 32) rfl ?_
  refine s_static H (met_put_0_0 H.tb ik i2 (0 : Int32) (0 : Int32) (0 : Int32) (0 : Int32) (0 : Int32) (0 : Int32) (0 : Int32) (0 : Int32) (0 : Int32) (0 : Int32) (0 : Int32) (0 : Int32) (0 : Int32) (0 : Int32) (0 : Int32) (0 : Int32)) at_32 (mem (i := 1) rfl) (mem (i := 2) rfl) (mem (i := 3) rfl) (mem (i := 4) rfl) (by decide) pd_1 rfl (rest := []) rfl rfl (by decide) (Nat.le_of_ble_eq_true rfl) (cn' := 2) (sn' := 32) rfl rfl (by decide) (by decide) (pc' := 35) rfl (fun v0 M0 hq => ?_)
  obtain ⟨rfl, hm0⟩ := hq
  subst M0
  show Go Z k 2 32 ((ik, ArI Z .byte ([(pb56 i2), (pb48 i2), (pb40 i2), (pb32 i2), (pb24 i2), (pb16 i2), (pb8 i2), (pb0 i2), (0 : Int32), (0 : Int32), (0 : Int32), (0 : Int32), (0 : Int32), (0 : Int32), (0 : Int32), (0 : Int32)] : List Int32)) :: (ck, ArI Z .byte ([(pb56 i0), (pb48 i0), (pb40 i0), (pb32 i0), (pb24 i0), (pb16 i0), (pb8 i0), (pb0 i0), (pb56 i1), (pb48 i1), (pb40 i1), (pb32 i1), (pb24 i1), (pb16 i1), (pb8 i1), (pb0 i1)] : List Int32)) :: []) 35 #[.val (.long i0), .second, .val (.long i1), .second, .val (.long i2), .second, .val (.long i3), .second, .val (.ref ck), .val (.ref ik), .unset, .unset, .unset, .unset] []
  refine s_aload H at_35 rfl rfl (pc' := 37) rfl ?_
  refine s_bipush H at_37 (z := (8 : Int32)) (by decide) (pc' := 39) rfl ?_
  refine s_lload H at_39 rfl (pc' := 41) rfl ?_
  refine s_static H (met_put_8_0 H.tb ik i3 (pb56 i2) (pb48 i2) (pb40 i2) (pb32 i2) (pb24 i2) (pb16 i2) (pb8 i2) (pb0 i2) (0 : Int32) (0 : Int32) (0 : Int32) (0 : Int32) (0 : Int32) (0 : Int32) (0 : Int32) (0 : Int32)) at_41 (mem (i := 1) rfl) (mem (i := 2) rfl) (mem (i := 3) rfl) (mem (i := 4) rfl) (by decide) pd_1 rfl (rest := []) rfl rfl (by decide) (Nat.le_of_ble_eq_true rfl) (cn' := 2) (sn' := 32) rfl rfl (by decide) (by decide) (pc' := 44) rfl (fun v0 M0 hq => ?_)
  obtain ⟨rfl, hm0⟩ := hq
  subst M0
  show Go Z k 2 32 ((ik, ArI Z .byte ([(pb56 i2), (pb48 i2), (pb40 i2), (pb32 i2), (pb24 i2), (pb16 i2), (pb8 i2), (pb0 i2), (pb56 i3), (pb48 i3), (pb40 i3), (pb32 i3), (pb24 i3), (pb16 i3), (pb8 i3), (pb0 i3)] : List Int32)) :: (ck, ArI Z .byte ([(pb56 i0), (pb48 i0), (pb40 i0), (pb32 i0), (pb24 i0), (pb16 i0), (pb8 i0), (pb0 i0), (pb56 i1), (pb48 i1), (pb40 i1), (pb32 i1), (pb24 i1), (pb16 i1), (pb8 i1), (pb0 i1)] : List Int32)) :: []) 44 #[.val (.long i0), .second, .val (.long i1), .second, .val (.long i2), .second, .val (.long i3), .second, .val (.ref ck), .val (.ref ik), .unset, .unset, .unset, .unset] []
  refine s_new H (C := "com/example/quintet/quintet/Milenage$Outputs") [("com/example/quintet/quintet/Milenage$Outputs", "macA", "[B", .null), ("com/example/quintet/quintet/Milenage$Outputs", "macS", "[B", .null), ("com/example/quintet/quintet/Milenage$Outputs", "res", "[B", .null), ("com/example/quintet/quintet/Milenage$Outputs", "ck", "[B", .null), ("com/example/quintet/quintet/Milenage$Outputs", "ik", "[B", .null), ("com/example/quintet/quintet/Milenage$Outputs", "ak", "[B", .null), ("com/example/quintet/quintet/Milenage$Outputs", "akStar", "[B", .null), ("com/example/quintet/quintet/Milenage$Outputs", "autn", "[B", .null)] at_44 (mem (i := 5) rfl) (mem (i := 6) rfl) (mem (i := 7) rfl) (allC ⟨Or.inr (mem (i := 20) rfl), (.array .byte), by decide, rfl⟩ (allC ⟨Or.inr (mem (i := 22) rfl), (.array .byte), by decide, rfl⟩ (allC ⟨Or.inr (mem (i := 24) rfl), (.array .byte), by decide, rfl⟩ (allC ⟨Or.inr (mem (i := 26) rfl), (.array .byte), by decide, rfl⟩ (allC ⟨Or.inr (mem (i := 28) rfl), (.array .byte), by decide, rfl⟩ (allC ⟨Or.inr (mem (i := 30) rfl), (.array .byte), by decide, rfl⟩ (allC ⟨Or.inr (mem (i := 32) rfl), (.array .byte), by decide, rfl⟩ (allC ⟨Or.inr (mem (i := 34) rfl), (.array .byte), by decide, rfl⟩ allN)))))))) (by decide) (cn' := 3) (sn' := 40) rfl rfl (by decide) (by decide) (pc' := 47) rfl (fun a1 => ?_)
  refine s_dup H at_47 rfl (pc' := 48) rfl ?_
  refine s_bipush H at_48 (z := (8 : Int32)) (by decide) (pc' := 50) rfl ?_
  refine s_newarr_byte H at_50 (mem (i := 0) rfl) (by decide) (cap := 8) (by decide) (by decide) (cn' := 4) (sn' := 48) rfl rfl (by decide) (by decide) (pc' := 52) rfl (fun a2 => ?_)
  show Go Z k 4 48 ((a2, ArI Z .byte ([(0 : Int32), (0 : Int32), (0 : Int32), (0 : Int32), (0 : Int32), (0 : Int32), (0 : Int32), (0 : Int32)] : List Int32)) :: (a1, Obj Z "com/example/quintet/quintet/Milenage$Outputs" [("com/example/quintet/quintet/Milenage$Outputs", "macA", "[B", .null), ("com/example/quintet/quintet/Milenage$Outputs", "macS", "[B", .null), ("com/example/quintet/quintet/Milenage$Outputs", "res", "[B", .null), ("com/example/quintet/quintet/Milenage$Outputs", "ck", "[B", .null), ("com/example/quintet/quintet/Milenage$Outputs", "ik", "[B", .null), ("com/example/quintet/quintet/Milenage$Outputs", "ak", "[B", .null), ("com/example/quintet/quintet/Milenage$Outputs", "akStar", "[B", .null), ("com/example/quintet/quintet/Milenage$Outputs", "autn", "[B", .null)]) :: (ik, ArI Z .byte ([(pb56 i2), (pb48 i2), (pb40 i2), (pb32 i2), (pb24 i2), (pb16 i2), (pb8 i2), (pb0 i2), (pb56 i3), (pb48 i3), (pb40 i3), (pb32 i3), (pb24 i3), (pb16 i3), (pb8 i3), (pb0 i3)] : List Int32)) :: (ck, ArI Z .byte ([(pb56 i0), (pb48 i0), (pb40 i0), (pb32 i0), (pb24 i0), (pb16 i0), (pb8 i0), (pb0 i0), (pb56 i1), (pb48 i1), (pb40 i1), (pb32 i1), (pb24 i1), (pb16 i1), (pb8 i1), (pb0 i1)] : List Int32)) :: []) 52 #[.val (.long i0), .second, .val (.long i1), .second, .val (.long i2), .second, .val (.long i3), .second, .val (.ref ck), .val (.ref ik), .unset, .unset, .unset, .unset] [(.ref a2), (.ref a1), (.ref a1)]
  refine s_bipush H at_52 (z := (8 : Int32)) (by decide) (pc' := 54) rfl ?_
  refine s_newarr_byte H at_54 (mem (i := 0) rfl) (by decide) (cap := 8) (by decide) (by decide) (cn' := 5) (sn' := 56) rfl rfl (by decide) (by decide) (pc' := 56) rfl (fun a3 => ?_)
  show Go Z k 5 56 ((a3, ArI Z .byte ([(0 : Int32), (0 : Int32), (0 : Int32), (0 : Int32), (0 : Int32), (0 : Int32), (0 : Int32), (0 : Int32)] : List Int32)) :: (a2, ArI Z .byte ([(0 : Int32), (0 : Int32), (0 : Int32), (0 : Int32), (0 : Int32), (0 : Int32), (0 : Int32), (0 : Int32)] : List Int32)) :: (a1, Obj Z "com/example/quintet/quintet/Milenage$Outputs" [("com/example/quintet/quintet/Milenage$Outputs", "macA", "[B", .null), ("com/example/quintet/quintet/Milenage$Outputs", "macS", "[B", .null), ("com/example/quintet/quintet/Milenage$Outputs", "res", "[B", .null), ("com/example/quintet/quintet/Milenage$Outputs", "ck", "[B", .null), ("com/example/quintet/quintet/Milenage$Outputs", "ik", "[B", .null), ("com/example/quintet/quintet/Milenage$Outputs", "ak", "[B", .null), ("com/example/quintet/quintet/Milenage$Outputs", "akStar", "[B", .null), ("com/example/quintet/quintet/Milenage$Outputs", "autn", "[B", .null)]) :: (ik, ArI Z .byte ([(pb56 i2), (pb48 i2), (pb40 i2), (pb32 i2), (pb24 i2), (pb16 i2), (pb8 i2), (pb0 i2), (pb56 i3), (pb48 i3), (pb40 i3), (pb32 i3), (pb24 i3), (pb16 i3), (pb8 i3), (pb0 i3)] : List Int32)) :: (ck, ArI Z .byte ([(pb56 i0), (pb48 i0), (pb40 i0), (pb32 i0), (pb24 i0), (pb16 i0), (pb8 i0), (pb0 i0), (pb56 i1), (pb48 i1), (pb40 i1), (pb32 i1), (pb24 i1), (pb16 i1), (pb8 i1), (pb0 i1)] : List Int32)) :: []) 56 #[.val (.long i0), .second, .val (.long i1), .second, .val (.long i2), .second, .val (.long i3), .second, .val (.ref ck), .val (.ref ik), .unset, .unset, .unset, .unset] [(.ref a3), (.ref a2), (.ref a1), (.ref a1)]
  refine s_bipush H at_56 (z := (8 : Int32)) (by decide) (pc' := 58) rfl ?_
  refine s_newarr_byte H at_58 (mem (i := 0) rfl) (by decide) (cap := 8) (by decide) (by decide) (cn' := 6) (sn' := 64) rfl rfl (by decide) (by decide) (pc' := 60) rfl (fun a4 => ?_)
  show Go Z k 6 64 ((a4, ArI Z .byte ([(0 : Int32), (0 : Int32), (0 : Int32), (0 : Int32), (0 : Int32), (0 : Int32), (0 : Int32), (0 : Int32)] : List Int32)) :: (a3, ArI Z .byte ([(0 : Int32), (0 : Int32), (0 : Int32), (0 : Int32), (0 : Int32), (0 : Int32), (0 : Int32), (0 : Int32)] : List Int32)) :: (a2, ArI Z .byte ([(0 : Int32), (0 : Int32), (0 : Int32), (0 : Int32), (0 : Int32), (0 : Int32), (0 : Int32), (0 : Int32)] : List Int32)) :: (a1, Obj Z "com/example/quintet/quintet/Milenage$Outputs" [("com/example/quintet/quintet/Milenage$Outputs", "macA", "[B", .null), ("com/example/quintet/quintet/Milenage$Outputs", "macS", "[B", .null), ("com/example/quintet/quintet/Milenage$Outputs", "res", "[B", .null), ("com/example/quintet/quintet/Milenage$Outputs", "ck", "[B", .null), ("com/example/quintet/quintet/Milenage$Outputs", "ik", "[B", .null), ("com/example/quintet/quintet/Milenage$Outputs", "ak", "[B", .null), ("com/example/quintet/quintet/Milenage$Outputs", "akStar", "[B", .null), ("com/example/quintet/quintet/Milenage$Outputs", "autn", "[B", .null)]) :: (ik, ArI Z .byte ([(pb56 i2), (pb48 i2), (pb40 i2), (pb32 i2), (pb24 i2), (pb16 i2), (pb8 i2), (pb0 i2), (pb56 i3), (pb48 i3), (pb40 i3), (pb32 i3), (pb24 i3), (pb16 i3), (pb8 i3), (pb0 i3)] : List Int32)) :: (ck, ArI Z .byte ([(pb56 i0), (pb48 i0), (pb40 i0), (pb32 i0), (pb24 i0), (pb16 i0), (pb8 i0), (pb0 i0), (pb56 i1), (pb48 i1), (pb40 i1), (pb32 i1), (pb24 i1), (pb16 i1), (pb8 i1), (pb0 i1)] : List Int32)) :: []) 60 #[.val (.long i0), .second, .val (.long i1), .second, .val (.long i2), .second, .val (.long i3), .second, .val (.ref ck), .val (.ref ik), .unset, .unset, .unset, .unset] [(.ref a4), (.ref a3), (.ref a2), (.ref a1), (.ref a1)]
  refine s_aload H at_60 rfl rfl (pc' := 62) rfl ?_
  refine s_aload H at_62 rfl rfl (pc' := 64) rfl ?_
  refine s_bipush H at_64 (z := (6 : Int32)) (by decide) (pc' := 66) rfl ?_
  refine s_newarr_byte H at_66 (mem (i := 0) rfl) (by decide) (cap := 6) (by decide) (by decide) (cn' := 7) (sn' := 70) rfl rfl (by decide) (by decide) (pc' := 68) rfl (fun a5 => ?_)
  show Go Z k 7 70 ((a5, ArI Z .byte ([(0 : Int32), (0 : Int32), (0 : Int32), (0 : Int32), (0 : Int32), (0 : Int32)] : List Int32)) :: (a4, ArI Z .byte ([(0 : Int32), (0 : Int32), (0 : Int32), (0 : Int32), (0 : Int32), (0 : Int32), (0 : Int32), (0 : Int32)] : List Int32)) :: (a3, ArI Z .byte ([(0 : Int32), (0 : Int32), (0 : Int32), (0 : Int32), (0 : Int32), (0 : Int32), (0 : Int32), (0 : Int32)] : List Int32)) :: (a2, ArI Z .byte ([(0 : Int32), (0 : Int32), (0 : Int32), (0 : Int32), (0 : Int32), (0 : Int32), (0 : Int32), (0 : Int32)] : List Int32)) :: (a1, Obj Z "com/example/quintet/quintet/Milenage$Outputs" [("com/example/quintet/quintet/Milenage$Outputs", "macA", "[B", .null), ("com/example/quintet/quintet/Milenage$Outputs", "macS", "[B", .null), ("com/example/quintet/quintet/Milenage$Outputs", "res", "[B", .null), ("com/example/quintet/quintet/Milenage$Outputs", "ck", "[B", .null), ("com/example/quintet/quintet/Milenage$Outputs", "ik", "[B", .null), ("com/example/quintet/quintet/Milenage$Outputs", "ak", "[B", .null), ("com/example/quintet/quintet/Milenage$Outputs", "akStar", "[B", .null), ("com/example/quintet/quintet/Milenage$Outputs", "autn", "[B", .null)]) :: (ik, ArI Z .byte ([(pb56 i2), (pb48 i2), (pb40 i2), (pb32 i2), (pb24 i2), (pb16 i2), (pb8 i2), (pb0 i2), (pb56 i3), (pb48 i3), (pb40 i3), (pb32 i3), (pb24 i3), (pb16 i3), (pb8 i3), (pb0 i3)] : List Int32)) :: (ck, ArI Z .byte ([(pb56 i0), (pb48 i0), (pb40 i0), (pb32 i0), (pb24 i0), (pb16 i0), (pb8 i0), (pb0 i0), (pb56 i1), (pb48 i1), (pb40 i1), (pb32 i1), (pb24 i1), (pb16 i1), (pb8 i1), (pb0 i1)] : List Int32)) :: []) 68 #[.val (.long i0), .second, .val (.long i1), .second, .val (.long i2), .second, .val (.long i3), .second, .val (.ref ck), .val (.ref ik), .unset, .unset, .unset, .unset] [(.ref a5), (.ref ik), (.ref ck), (.ref a4), (.ref a3), (.ref a2), (.ref a1), (.ref a1)]
  refine s_bipush H at_68 (z := (6 : Int32)) (by decide) (pc' := 70) rfl ?_
  refine s_newarr_byte H at_70 (mem (i := 0) rfl) (by decide) (cap := 6) (by decide) (by decide) (cn' := 8) (sn' := 76) rfl rfl (by decide) (by decide) (pc' := 72) rfl (fun a6 => ?_)
  show Go Z k 8 76 ((a6, ArI Z .byte ([(0 : Int32), (0 : Int32), (0 : Int32), (0 : Int32), (0 : Int32), (0 : Int32)] : List Int32)) :: (a5, ArI Z .byte ([(0 : Int32), (0 : Int32), (0 : Int32), (0 : Int32), (0 : Int32), (0 : Int32)] : List Int32)) :: (a4, ArI Z .byte ([(0 : Int32), (0 : Int32), (0 : Int32), (0 : Int32), (0 : Int32), (0 : Int32), (0 : Int32), (0 : Int32)] : List Int32)) :: (a3, ArI Z .byte ([(0 : Int32), (0 : Int32), (0 : Int32), (0 : Int32), (0 : Int32), (0 : Int32), (0 : Int32), (0 : Int32)] : List Int32)) :: (a2, ArI Z .byte ([(0 : Int32), (0 : Int32), (0 : Int32), (0 : Int32), (0 : Int32), (0 : Int32), (0 : Int32), (0 : Int32)] : List Int32)) :: (a1, Obj Z "com/example/quintet/quintet/Milenage$Outputs" [("com/example/quintet/quintet/Milenage$Outputs", "macA", "[B", .null), ("com/example/quintet/quintet/Milenage$Outputs", "macS", "[B", .null), ("com/example/quintet/quintet/Milenage$Outputs", "res", "[B", .null), ("com/example/quintet/quintet/Milenage$Outputs", "ck", "[B", .null), ("com/example/quintet/quintet/Milenage$Outputs", "ik", "[B", .null), ("com/example/quintet/quintet/Milenage$Outputs", "ak", "[B", .null), ("com/example/quintet/quintet/Milenage$Outputs", "akStar", "[B", .null), ("com/example/quintet/quintet/Milenage$Outputs", "autn", "[B", .null)]) :: (ik, ArI Z .byte ([(pb56 i2), (pb48 i2), (pb40 i2), (pb32 i2), (pb24 i2), (pb16 i2), (pb8 i2), (pb0 i2), (pb56 i3), (pb48 i3), (pb40 i3), (pb32 i3), (pb24 i3), (pb16 i3), (pb8 i3), (pb0 i3)] : List Int32)) :: (ck, ArI Z .byte ([(pb56 i0), (pb48 i0), (pb40 i0), (pb32 i0), (pb24 i0), (pb16 i0), (pb8 i0), (pb0 i0), (pb56 i1), (pb48 i1), (pb40 i1), (pb32 i1), (pb24 i1), (pb16 i1), (pb8 i1), (pb0 i1)] : List Int32)) :: []) 72 #[.val (.long i0), .second, .val (.long i1), .second, .val (.long i2), .second, .val (.long i3), .second, .val (.ref ck), .val (.ref ik), .unset, .unset, .unset, .unset] [(.ref a6), (.ref a5), (.ref ik), (.ref ck), (.ref a4), (.ref a3), (.ref a2), (.ref a1), (.ref a1)]
  refine s_bipush H at_72 (z := (16 : Int32)) (by decide) (pc' := 74) rfl ?_
  refine s_newarr_byte H at_74 (mem (i := 0) rfl) (by decide) (cap := 16) (by decide) (by decide) (cn' := 9) (sn' := 92) rfl rfl (by decide) (by decide) (pc' := 76) rfl (fun a7 => ?_)
  show Go Z k 9 92 ((a7, ArI Z .byte ([(0 : Int32), (0 : Int32), (0 : Int32), (0 : Int32), (0 : Int32), (0 : Int32), (0 : Int32), (0 : Int32), (0 : Int32), (0 : Int32), (0 : Int32), (0 : Int32), (0 : Int32), (0 : Int32), (0 : Int32), (0 : Int32)] : List Int32)) :: (a6, ArI Z .byte ([(0 : Int32), (0 : Int32), (0 : Int32), (0 : Int32), (0 : Int32), (0 : Int32)] : List Int32)) :: (a5, ArI Z .byte ([(0 : Int32), (0 : Int32), (0 : Int32), (0 : Int32), (0 : Int32), (0 : Int32)] : List Int32)) :: (a4, ArI Z .byte ([(0 : Int32), (0 : Int32), (0 : Int32), (0 : Int32), (0 : Int32), (0 : Int32), (0 : Int32), (0 : Int32)] : List Int32)) :: (a3, ArI Z .byte ([(0 : Int32), (0 : Int32), (0 : Int32), (0 : Int32), (0 : Int32), (0 : Int32), (0 : Int32), (0 : Int32)] : List Int32)) :: (a2, ArI Z .byte ([(0 : Int32), (0 : Int32), (0 : Int32), (0 : Int32), (0 : Int32), (0 : Int32), (0 : Int32), (0 : Int32)] : List Int32)) :: (a1, Obj Z "com/example/quintet/quintet/Milenage$Outputs" [("com/example/quintet/quintet/Milenage$Outputs", "macA", "[B", .null), ("com/example/quintet/quintet/Milenage$Outputs", "macS", "[B", .null), ("com/example/quintet/quintet/Milenage$Outputs", "res", "[B", .null), ("com/example/quintet/quintet/Milenage$Outputs", "ck", "[B", .null), ("com/example/quintet/quintet/Milenage$Outputs", "ik", "[B", .null), ("com/example/quintet/quintet/Milenage$Outputs", "ak", "[B", .null), ("com/example/quintet/quintet/Milenage$Outputs", "akStar", "[B", .null), ("com/example/quintet/quintet/Milenage$Outputs", "autn", "[B", .null)]) :: (ik, ArI Z .byte ([(pb56 i2), (pb48 i2), (pb40 i2), (pb32 i2), (pb24 i2), (pb16 i2), (pb8 i2), (pb0 i2), (pb56 i3), (pb48 i3), (pb40 i3), (pb32 i3), (pb24 i3), (pb16 i3), (pb8 i3), (pb0 i3)] : List Int32)) :: (ck, ArI Z .byte ([(pb56 i0), (pb48 i0), (pb40 i0), (pb32 i0), (pb24 i0), (pb16 i0), (pb8 i0), (pb0 i0), (pb56 i1), (pb48 i1), (pb40 i1), (pb32 i1), (pb24 i1), (pb16 i1), (pb8 i1), (pb0 i1)] : List Int32)) :: []) 76 #[.val (.long i0), .second, .val (.long i1), .second, .val (.long i2), .second, .val (.long i3), .second, .val (.ref ck), .val (.ref ik), .unset, .unset, .unset, .unset] [(.ref a7), (.ref a6), (.ref a5), (.ref ik), (.ref ck), (.ref a4), (.ref a3), (.ref a2), (.ref a1), (.ref a1)]
  refine s_init H (met_oi H.tb a1 a2 a3 a4 ck ik a5 a6 a7 a7 a6 a5 a4 a3 a2 (ArI Z .byte ([(0 : Int32), (0 : Int32), (0 : Int32), (0 : Int32), (0 : Int32), (0 : Int32), (0 : Int32), (0 : Int32), (0 : Int32), (0 : Int32), (0 : Int32), (0 : Int32), (0 : Int32), (0 : Int32), (0 : Int32), (0 : Int32)] : List Int32)) (ArI Z .byte ([(0 : Int32), (0 : Int32), (0 : Int32), (0 : Int32), (0 : Int32), (0 : Int32)] : List Int32)) (ArI Z .byte ([(0 : Int32), (0 : Int32), (0 : Int32), (0 : Int32), (0 : Int32), (0 : Int32)] : List Int32)) (ArI Z .byte ([(0 : Int32), (0 : Int32), (0 : Int32), (0 : Int32), (0 : Int32), (0 : Int32), (0 : Int32), (0 : Int32)] : List Int32)) (ArI Z .byte ([(0 : Int32), (0 : Int32), (0 : Int32), (0 : Int32), (0 : Int32), (0 : Int32), (0 : Int32), (0 : Int32)] : List Int32)) (ArI Z .byte ([(0 : Int32), (0 : Int32), (0 : Int32), (0 : Int32), (0 : Int32), (0 : Int32), (0 : Int32), (0 : Int32)] : List Int32))) at_76 rfl (mem (i := 8) rfl) (mem (i := 9) rfl) (mem (i := 7) rfl) (mem (i := 10) rfl) (by decide) pd_2 rfl (rest := [(.ref a1)]) rfl rfl (by decide) (Nat.le_of_ble_eq_true rfl) (cn' := 9) (sn' := 92) rfl rfl (by decide) (by decide) (pc' := 79) rfl (fun v0 M0 hq => ?_)
  obtain ⟨rfl, hm0⟩ := hq
  subst M0
  show Go Z k 9 92 ((a7, ArI Z .byte ([(0 : Int32), (0 : Int32), (0 : Int32), (0 : Int32), (0 : Int32), (0 : Int32), (0 : Int32), (0 : Int32), (0 : Int32), (0 : Int32), (0 : Int32), (0 : Int32), (0 : Int32), (0 : Int32), (0 : Int32), (0 : Int32)] : List Int32)) :: (a6, ArI Z .byte ([(0 : Int32), (0 : Int32), (0 : Int32), (0 : Int32), (0 : Int32), (0 : Int32)] : List Int32)) :: (a5, ArI Z .byte ([(0 : Int32), (0 : Int32), (0 : Int32), (0 : Int32), (0 : Int32), (0 : Int32)] : List Int32)) :: (a4, ArI Z .byte ([(0 : Int32), (0 : Int32), (0 : Int32), (0 : Int32), (0 : Int32), (0 : Int32), (0 : Int32), (0 : Int32)] : List Int32)) :: (a3, ArI Z .byte ([(0 : Int32), (0 : Int32), (0 : Int32), (0 : Int32), (0 : Int32), (0 : Int32), (0 : Int32), (0 : Int32)] : List Int32)) :: (a2, ArI Z .byte ([(0 : Int32), (0 : Int32), (0 : Int32), (0 : Int32), (0 : Int32), (0 : Int32), (0 : Int32), (0 : Int32)] : List Int32)) :: (a1, Obj Z "com/example/quintet/quintet/Milenage$Outputs" [("com/example/quintet/quintet/Milenage$Outputs", "macA", "[B", (.ref a2)), ("com/example/quintet/quintet/Milenage$Outputs", "macS", "[B", (.ref a3)), ("com/example/quintet/quintet/Milenage$Outputs", "res", "[B", (.ref a4)), ("com/example/quintet/quintet/Milenage$Outputs", "ck", "[B", (.ref ck)), ("com/example/quintet/quintet/Milenage$Outputs", "ik", "[B", (.ref ik)), ("com/example/quintet/quintet/Milenage$Outputs", "ak", "[B", (.ref a5)), ("com/example/quintet/quintet/Milenage$Outputs", "akStar", "[B", (.ref a6)), ("com/example/quintet/quintet/Milenage$Outputs", "autn", "[B", (.ref a7))]) :: (ik, ArI Z .byte ([(pb56 i2), (pb48 i2), (pb40 i2), (pb32 i2), (pb24 i2), (pb16 i2), (pb8 i2), (pb0 i2), (pb56 i3), (pb48 i3), (pb40 i3), (pb32 i3), (pb24 i3), (pb16 i3), (pb8 i3), (pb0 i3)] : List Int32)) :: (ck, ArI Z .byte ([(pb56 i0), (pb48 i0), (pb40 i0), (pb32 i0), (pb24 i0), (pb16 i0), (pb8 i0), (pb0 i0), (pb56 i1), (pb48 i1), (pb40 i1), (pb32 i1), (pb24 i1), (pb16 i1), (pb8 i1), (pb0 i1)] : List Int32)) :: []) 79 #[.val (.long i0), .second, .val (.long i1), .second, .val (.long i2), .second, .val (.long i3), .second, .val (.ref ck), .val (.ref ik), .unset, .unset, .unset, .unset] [(.ref a1)]
  refine s_astore H at_79 (L' := #[.val (.long i0), .second, .val (.long i1), .second, .val (.long i2), .second, .val (.long i3), .second, .val (.ref ck), .val (.ref ik), .val (.ref a1), .unset, .unset, .unset]) rfl rfl (pc' := 81) rfl ?_
  refine s_aload H at_81 rfl rfl (pc' := 83) rfl ?_
  refine s_virtual H (met_kc H.tb (io := 6) (ic := 8) (ii := 7) a1 ck ik a2 a3 a4 a5 a6 a7 ([(pb56 i0), (pb48 i0), (pb40 i0), (pb32 i0), (pb24 i0), (pb16 i0), (pb8 i0), (pb0 i0), (pb56 i1), (pb48 i1), (pb40 i1), (pb32 i1), (pb24 i1), (pb16 i1), (pb8 i1), (pb0 i1)] : List Int32) ([(pb56 i2), (pb48 i2), (pb40 i2), (pb32 i2), (pb24 i2), (pb16 i2), (pb8 i2), (pb0 i2), (pb56 i3), (pb48 i3), (pb40 i3), (pb32 i3), (pb24 i3), (pb16 i3), (pb8 i3), (pb0 i3)] : List Int32) rfl rfl rfl rfl rfl) at_83 (i := 6) rfl (mem (i := 35) rfl) (mem (i := 36) rfl) (mem (i := 38) rfl) (mem (i := 37) rfl) (mem (i := 7) rfl) (mem (i := 39) rfl) (by decide) pd_5 rfl (rest := []) rfl rfl (by decide) (Nat.le_of_ble_eq_true rfl) (cn' := 16) (sn' := 148) rfl rfl (by decide) (by decide) (pc' := 86) rfl (fun v0 M0 hq => ?_)
  obtain ⟨kr, F', rfl, hm0⟩ := hq
  subst M0
  show Go Z k 16 148 ((kr, ArI Z .byte ([(xb (xb (pb56 i0) (pb56 i1)) (xb (pb56 i2) (pb56 i3))), (xb (xb (pb48 i0) (pb48 i1)) (xb (pb48 i2) (pb48 i3))), (xb (xb (pb40 i0) (pb40 i1)) (xb (pb40 i2) (pb40 i3))), (xb (xb (pb32 i0) (pb32 i1)) (xb (pb32 i2) (pb32 i3))), (xb (xb (pb24 i0) (pb24 i1)) (xb (pb24 i2) (pb24 i3))), (xb (xb (pb16 i0) (pb16 i1)) (xb (pb16 i2) (pb16 i3))), (xb (xb (pb8 i0) (pb8 i1)) (xb (pb8 i2) (pb8 i3))), (xb (xb (pb0 i0) (pb0 i1)) (xb (pb0 i2) (pb0 i3)))] : List Int32)) :: F' ++ ((a7, ArI Z .byte ([(0 : Int32), (0 : Int32), (0 : Int32), (0 : Int32), (0 : Int32), (0 : Int32), (0 : Int32), (0 : Int32), (0 : Int32), (0 : Int32), (0 : Int32), (0 : Int32), (0 : Int32), (0 : Int32), (0 : Int32), (0 : Int32)] : List Int32)) :: (a6, ArI Z .byte ([(0 : Int32), (0 : Int32), (0 : Int32), (0 : Int32), (0 : Int32), (0 : Int32)] : List Int32)) :: (a5, ArI Z .byte ([(0 : Int32), (0 : Int32), (0 : Int32), (0 : Int32), (0 : Int32), (0 : Int32)] : List Int32)) :: (a4, ArI Z .byte ([(0 : Int32), (0 : Int32), (0 : Int32), (0 : Int32), (0 : Int32), (0 : Int32), (0 : Int32), (0 : Int32)] : List Int32)) :: (a3, ArI Z .byte ([(0 : Int32), (0 : Int32), (0 : Int32), (0 : Int32), (0 : Int32), (0 : Int32), (0 : Int32), (0 : Int32)] : List Int32)) :: (a2, ArI Z .byte ([(0 : Int32), (0 : Int32), (0 : Int32), (0 : Int32), (0 : Int32), (0 : Int32), (0 : Int32), (0 : Int32)] : List Int32)) :: (a1, Obj Z "com/example/quintet/quintet/Milenage$Outputs" [("com/example/quintet/quintet/Milenage$Outputs", "macA", "[B", (.ref a2)), ("com/example/quintet/quintet/Milenage$Outputs", "macS", "[B", (.ref a3)), ("com/example/quintet/quintet/Milenage$Outputs", "res", "[B", (.ref a4)), ("com/example/quintet/quintet/Milenage$Outputs", "ck", "[B", (.ref ck)), ("com/example/quintet/quintet/Milenage$Outputs", "ik", "[B", (.ref ik)), ("com/example/quintet/quintet/Milenage$Outputs", "ak", "[B", (.ref a5)), ("com/example/quintet/quintet/Milenage$Outputs", "akStar", "[B", (.ref a6)), ("com/example/quintet/quintet/Milenage$Outputs", "autn", "[B", (.ref a7))]) :: (ik, ArI Z .byte ([(pb56 i2), (pb48 i2), (pb40 i2), (pb32 i2), (pb24 i2), (pb16 i2), (pb8 i2), (pb0 i2), (pb56 i3), (pb48 i3), (pb40 i3), (pb32 i3), (pb24 i3), (pb16 i3), (pb8 i3), (pb0 i3)] : List Int32)) :: (ck, ArI Z .byte ([(pb56 i0), (pb48 i0), (pb40 i0), (pb32 i0), (pb24 i0), (pb16 i0), (pb8 i0), (pb0 i0), (pb56 i1), (pb48 i1), (pb40 i1), (pb32 i1), (pb24 i1), (pb16 i1), (pb8 i1), (pb0 i1)] : List Int32)) :: [])) 86 #[.val (.long i0), .second, .val (.long i1), .second, .val (.long i2), .second, .val (.long i3), .second, .val (.ref ck), .val (.ref ik), .val (.ref a1), .unset, .unset, .unset] [(.ref kr)]
  simp only [own_x56, own_x48, own_x40, own_x32, own_x24, own_x16, own_x8, own_x0]
  show Go Z k 16 148 ((kr, ArI Z .byte ([(pb56 (i0 ^^^ i1 ^^^ (i2 ^^^ i3))), (pb48 (i0 ^^^ i1 ^^^ (i2 ^^^ i3))), (pb40 (i0 ^^^ i1 ^^^ (i2 ^^^ i3))), (pb32 (i0 ^^^ i1 ^^^ (i2 ^^^ i3))), (pb24 (i0 ^^^ i1 ^^^ (i2 ^^^ i3))), (pb16 (i0 ^^^ i1 ^^^ (i2 ^^^ i3))), (pb8 (i0 ^^^ i1 ^^^ (i2 ^^^ i3))), (pb0 (i0 ^^^ i1 ^^^ (i2 ^^^ i3)))] : List Int32)) :: F' ++ ((a7, ArI Z .byte ([(0 : Int32), (0 : Int32), (0 : Int32), (0 : Int32), (0 : Int32), (0 : Int32), (0 : Int32), (0 : Int32), (0 : Int32), (0 : Int32), (0 : Int32), (0 : Int32), (0 : Int32), (0 : Int32), (0 : Int32), (0 : Int32)] : List Int32)) :: (a6, ArI Z .byte ([(0 : Int32), (0 : Int32), (0 : Int32), (0 : Int32), (0 : Int32), (0 : Int32)] : List Int32)) :: (a5, ArI Z .byte ([(0 : Int32), (0 : Int32), (0 : Int32), (0 : Int32), (0 : Int32), (0 : Int32)] : List Int32)) :: (a4, ArI Z .byte ([(0 : Int32), (0 : Int32), (0 : Int32), (0 : Int32), (0 : Int32), (0 : Int32), (0 : Int32), (0 : Int32)] : List Int32)) :: (a3, ArI Z .byte ([(0 : Int32), (0 : Int32), (0 : Int32), (0 : Int32), (0 : Int32), (0 : Int32), (0 : Int32), (0 : Int32)] : List Int32)) :: (a2, ArI Z .byte ([(0 : Int32), (0 : Int32), (0 : Int32), (0 : Int32), (0 : Int32), (0 : Int32), (0 : Int32), (0 : Int32)] : List Int32)) :: (a1, Obj Z "com/example/quintet/quintet/Milenage$Outputs" [("com/example/quintet/quintet/Milenage$Outputs", "macA", "[B", (.ref a2)), ("com/example/quintet/quintet/Milenage$Outputs", "macS", "[B", (.ref a3)), ("com/example/quintet/quintet/Milenage$Outputs", "res", "[B", (.ref a4)), ("com/example/quintet/quintet/Milenage$Outputs", "ck", "[B", (.ref ck)), ("com/example/quintet/quintet/Milenage$Outputs", "ik", "[B", (.ref ik)), ("com/example/quintet/quintet/Milenage$Outputs", "ak", "[B", (.ref a5)), ("com/example/quintet/quintet/Milenage$Outputs", "akStar", "[B", (.ref a6)), ("com/example/quintet/quintet/Milenage$Outputs", "autn", "[B", (.ref a7))]) :: (ik, ArI Z .byte ([(pb56 i2), (pb48 i2), (pb40 i2), (pb32 i2), (pb24 i2), (pb16 i2), (pb8 i2), (pb0 i2), (pb56 i3), (pb48 i3), (pb40 i3), (pb32 i3), (pb24 i3), (pb16 i3), (pb8 i3), (pb0 i3)] : List Int32)) :: (ck, ArI Z .byte ([(pb56 i0), (pb48 i0), (pb40 i0), (pb32 i0), (pb24 i0), (pb16 i0), (pb8 i0), (pb0 i0), (pb56 i1), (pb48 i1), (pb40 i1), (pb32 i1), (pb24 i1), (pb16 i1), (pb8 i1), (pb0 i1)] : List Int32)) :: [])) 86 #[.val (.long i0), .second, .val (.long i1), .second, .val (.long i2), .second, .val (.long i3), .second, .val (.ref ck), .val (.ref ik), .val (.ref a1), .unset, .unset, .unset] [(.ref kr)]
  refine s_astore H at_86 (L' := #[.val (.long i0), .second, .val (.long i1), .second, .val (.long i2), .second, .val (.long i3), .second, .val (.ref ck), .val (.ref ik), .val (.ref a1), .val (.ref kr), .unset, .unset]) rfl rfl (pc' := 88) rfl ?_
  refine s_aload H at_88 rfl rfl (pc' := 90) rfl ?_
  refine s_ifnull H at_90 (pc' := 93) rfl ?_
  refine s_aload H at_93 rfl rfl (pc' := 95) rfl ?_
  refine s_alenI H at_95 (i := 0) rfl (z := (8 : Int32)) rfl (pc' := 96) rfl ?_
  refine s_bipush H at_96 (z := (8 : Int32)) (by decide) (pc' := 98) rfl ?_
  refine s_icmp H at_98 (py := 103) (pc' := 101) q_eq (by decide) rfl (fun c98 => ?_) (fun c98 => ?_)
  · refine s_lloadn H at_103 rfl (pc' := 104) rfl ?_
    refine s_lloadn H at_104 rfl (pc' := 105) rfl ?_
    refine s_lxor H at_105 (pc' := 106) rfl ?_
    refine s_lload H at_106 rfl (pc' := 108) rfl ?_
    refine s_lxor H at_108 (pc' := 109) rfl ?_
    refine s_lload H at_109 rfl (pc' := 111) rfl ?_
    refine s_lxor H at_111 (pc' := 112) rfl ?_
    refine s_lstore H at_112 (L' := fun z => #[.val (.long i0), .second, .val (.long i1), .second, .val (.long i2), .second, .val (.long i3), .second, .val (.ref ck), .val (.ref ik), .val (.ref a1), .val (.ref kr), .val (.long z), .second]) (fun _ => rfl) (pc' := 114) rfl (fun ex h_ex => ?_)
    refine s_aload H at_114 rfl rfl (pc' := 116) rfl ?_
    refine s_iconst H at_116 (z := (0 : Int32)) (by decide) (pc' := 117) rfl ?_
    refine s_static H (met_get0 H.tb (i := 0) kr ([(pb56 (i0 ^^^ i1 ^^^ (i2 ^^^ i3))), (pb48 (i0 ^^^ i1 ^^^ (i2 ^^^ i3))), (pb40 (i0 ^^^ i1 ^^^ (i2 ^^^ i3))), (pb32 (i0 ^^^ i1 ^^^ (i2 ^^^ i3))), (pb24 (i0 ^^^ i1 ^^^ (i2 ^^^ i3))), (pb16 (i0 ^^^ i1 ^^^ (i2 ^^^ i3))), (pb8 (i0 ^^^ i1 ^^^ (i2 ^^^ i3))), (pb0 (i0 ^^^ i1 ^^^ (i2 ^^^ i3)))] : List Int32) (pb56 (i0 ^^^ i1 ^^^ (i2 ^^^ i3))) (pb48 (i0 ^^^ i1 ^^^ (i2 ^^^ i3))) (pb40 (i0 ^^^ i1 ^^^ (i2 ^^^ i3))) (pb32 (i0 ^^^ i1 ^^^ (i2 ^^^ i3))) (pb24 (i0 ^^^ i1 ^^^ (i2 ^^^ i3))) (pb16 (i0 ^^^ i1 ^^^ (i2 ^^^ i3))) (pb8 (i0 ^^^ i1 ^^^ (i2 ^^^ i3))) (pb0 (i0 ^^^ i1 ^^^ (i2 ^^^ i3))) rfl rfl rfl rfl rfl rfl rfl rfl rfl) at_117 (mem (i := 62) rfl) (mem (i := 63) rfl) (mem (i := 3) rfl) (mem (i := 64) rfl) (by decide) pd_11 rfl (rest := []) rfl rfl (by decide) (Nat.le_of_ble_eq_true rfl) (cn' := 16) (sn' := 148) rfl rfl (by decide) (by decide) (pc' := 120) rfl (fun v0 M0 hq => ?_)
    obtain ⟨rfl, hm0⟩ := hq
    subst M0
    show Go Z k 16 148 ((kr, ArI Z .byte ([(pb56 (i0 ^^^ i1 ^^^ (i2 ^^^ i3))), (pb48 (i0 ^^^ i1 ^^^ (i2 ^^^ i3))), (pb40 (i0 ^^^ i1 ^^^ (i2 ^^^ i3))), (pb32 (i0 ^^^ i1 ^^^ (i2 ^^^ i3))), (pb24 (i0 ^^^ i1 ^^^ (i2 ^^^ i3))), (pb16 (i0 ^^^ i1 ^^^ (i2 ^^^ i3))), (pb8 (i0 ^^^ i1 ^^^ (i2 ^^^ i3))), (pb0 (i0 ^^^ i1 ^^^ (i2 ^^^ i3)))] : List Int32)) :: F' ++ ((a7, ArI Z .byte ([(0 : Int32), (0 : Int32), (0 : Int32), (0 : Int32), (0 : Int32), (0 : Int32), (0 : Int32), (0 : Int32), (0 : Int32), (0 : Int32), (0 : Int32), (0 : Int32), (0 : Int32), (0 : Int32), (0 : Int32), (0 : Int32)] : List Int32)) :: (a6, ArI Z .byte ([(0 : Int32), (0 : Int32), (0 : Int32), (0 : Int32), (0 : Int32), (0 : Int32)] : List Int32)) :: (a5, ArI Z .byte ([(0 : Int32), (0 : Int32), (0 : Int32), (0 : Int32), (0 : Int32), (0 : Int32)] : List Int32)) :: (a4, ArI Z .byte ([(0 : Int32), (0 : Int32), (0 : Int32), (0 : Int32), (0 : Int32), (0 : Int32), (0 : Int32), (0 : Int32)] : List Int32)) :: (a3, ArI Z .byte ([(0 : Int32), (0 : Int32), (0 : Int32), (0 : Int32), (0 : Int32), (0 : Int32), (0 : Int32), (0 : Int32)] : List Int32)) :: (a2, ArI Z .byte ([(0 : Int32), (0 : Int32), (0 : Int32), (0 : Int32), (0 : Int32), (0 : Int32), (0 : Int32), (0 : Int32)] : List Int32)) :: (a1, Obj Z "com/example/quintet/quintet/Milenage$Outputs" [("com/example/quintet/quintet/Milenage$Outputs", "macA", "[B", (.ref a2)), ("com/example/quintet/quintet/Milenage$Outputs", "macS", "[B", (.ref a3)), ("com/example/quintet/quintet/Milenage$Outputs", "res", "[B", (.ref a4)), ("com/example/quintet/quintet/Milenage$Outputs", "ck", "[B", (.ref ck)), ("com/example/quintet/quintet/Milenage$Outputs", "ik", "[B", (.ref ik)), ("com/example/quintet/quintet/Milenage$Outputs", "ak", "[B", (.ref a5)), ("com/example/quintet/quintet/Milenage$Outputs", "akStar", "[B", (.ref a6)), ("com/example/quintet/quintet/Milenage$Outputs", "autn", "[B", (.ref a7))]) :: (ik, ArI Z .byte ([(pb56 i2), (pb48 i2), (pb40 i2), (pb32 i2), (pb24 i2), (pb16 i2), (pb8 i2), (pb0 i2), (pb56 i3), (pb48 i3), (pb40 i3), (pb32 i3), (pb24 i3), (pb16 i3), (pb8 i3), (pb0 i3)] : List Int32)) :: (ck, ArI Z .byte ([(pb56 i0), (pb48 i0), (pb40 i0), (pb32 i0), (pb24 i0), (pb16 i0), (pb8 i0), (pb0 i0), (pb56 i1), (pb48 i1), (pb40 i1), (pb32 i1), (pb24 i1), (pb16 i1), (pb8 i1), (pb0 i1)] : List Int32)) :: [])) 120 #[.val (.long i0), .second, .val (.long i1), .second, .val (.long i2), .second, .val (.long i3), .second, .val (.ref ck), .val (.ref ik), .val (.ref a1), .val (.ref kr), .val (.long ex), .second] [(.long (g8 (pb56 (i0 ^^^ i1 ^^^ (i2 ^^^ i3))) (pb48 (i0 ^^^ i1 ^^^ (i2 ^^^ i3))) (pb40 (i0 ^^^ i1 ^^^ (i2 ^^^ i3))) (pb32 (i0 ^^^ i1 ^^^ (i2 ^^^ i3))) (pb24 (i0 ^^^ i1 ^^^ (i2 ^^^ i3))) (pb16 (i0 ^^^ i1 ^^^ (i2 ^^^ i3))) (pb8 (i0 ^^^ i1 ^^^ (i2 ^^^ i3))) (pb0 (i0 ^^^ i1 ^^^ (i2 ^^^ i3)))))]
    rw [own_get8]
    show Go Z k 16 148 ((kr, ArI Z .byte ([(pb56 (i0 ^^^ i1 ^^^ (i2 ^^^ i3))), (pb48 (i0 ^^^ i1 ^^^ (i2 ^^^ i3))), (pb40 (i0 ^^^ i1 ^^^ (i2 ^^^ i3))), (pb32 (i0 ^^^ i1 ^^^ (i2 ^^^ i3))), (pb24 (i0 ^^^ i1 ^^^ (i2 ^^^ i3))), (pb16 (i0 ^^^ i1 ^^^ (i2 ^^^ i3))), (pb8 (i0 ^^^ i1 ^^^ (i2 ^^^ i3))), (pb0 (i0 ^^^ i1 ^^^ (i2 ^^^ i3)))] : List Int32)) :: F' ++ ((a7, ArI Z .byte ([(0 : Int32), (0 : Int32), (0 : Int32), (0 : Int32), (0 : Int32), (0 : Int32), (0 : Int32), (0 : Int32), (0 : Int32), (0 : Int32), (0 : Int32), (0 : Int32), (0 : Int32), (0 : Int32), (0 : Int32), (0 : Int32)] : List Int32)) :: (a6, ArI Z .byte ([(0 : Int32), (0 : Int32), (0 : Int32), (0 : Int32), (0 : Int32), (0 : Int32)] : List Int32)) :: (a5, ArI Z .byte ([(0 : Int32), (0 : Int32), (0 : Int32), (0 : Int32), (0 : Int32), (0 : Int32)] : List Int32)) :: (a4, ArI Z .byte ([(0 : Int32), (0 : Int32), (0 : Int32), (0 : Int32), (0 : Int32), (0 : Int32), (0 : Int32), (0 : Int32)] : List Int32)) :: (a3, ArI Z .byte ([(0 : Int32), (0 : Int32), (0 : Int32), (0 : Int32), (0 : Int32), (0 : Int32), (0 : Int32), (0 : Int32)] : List Int32)) :: (a2, ArI Z .byte ([(0 : Int32), (0 : Int32), (0 : Int32), (0 : Int32), (0 : Int32), (0 : Int32), (0 : Int32), (0 : Int32)] : List Int32)) :: (a1, Obj Z "com/example/quintet/quintet/Milenage$Outputs" [("com/example/quintet/quintet/Milenage$Outputs", "macA", "[B", (.ref a2)), ("com/example/quintet/quintet/Milenage$Outputs", "macS", "[B", (.ref a3)), ("com/example/quintet/quintet/Milenage$Outputs", "res", "[B", (.ref a4)), ("com/example/quintet/quintet/Milenage$Outputs", "ck", "[B", (.ref ck)), ("com/example/quintet/quintet/Milenage$Outputs", "ik", "[B", (.ref ik)), ("com/example/quintet/quintet/Milenage$Outputs", "ak", "[B", (.ref a5)), ("com/example/quintet/quintet/Milenage$Outputs", "akStar", "[B", (.ref a6)), ("com/example/quintet/quintet/Milenage$Outputs", "autn", "[B", (.ref a7))]) :: (ik, ArI Z .byte ([(pb56 i2), (pb48 i2), (pb40 i2), (pb32 i2), (pb24 i2), (pb16 i2), (pb8 i2), (pb0 i2), (pb56 i3), (pb48 i3), (pb40 i3), (pb32 i3), (pb24 i3), (pb16 i3), (pb8 i3), (pb0 i3)] : List Int32)) :: (ck, ArI Z .byte ([(pb56 i0), (pb48 i0), (pb40 i0), (pb32 i0), (pb24 i0), (pb16 i0), (pb8 i0), (pb0 i0), (pb56 i1), (pb48 i1), (pb40 i1), (pb32 i1), (pb24 i1), (pb16 i1), (pb8 i1), (pb0 i1)] : List Int32)) :: [])) 120 #[.val (.long i0), .second, .val (.long i1), .second, .val (.long i2), .second, .val (.long i3), .second, .val (.ref ck), .val (.ref ik), .val (.ref a1), .val (.ref kr), .val (.long ex), .second] [(.long (i0 ^^^ i1 ^^^ (i2 ^^^ i3)))]
    refine s_lload H at_120 rfl (pc' := 122) rfl ?_
    refine s_lcmp H at_122 (pc' := 123) rfl ?_
    refine s_if H at_123 (py := 178) (pc' := 126) l_ne (by decide) rfl (fun c123 => ?_) (fun c123 => ?_)
    · exact absurd (by rw [h_ex, Int64.xor_assoc (i0 ^^^ i1)]) c123
    · refine s_aload H at_126 rfl rfl (pc' := 128) rfl ?_
      refine s_iconst H at_128 (z := (0 : Int32)) (by decide) (pc' := 129) rfl ?_
      refine s_static H (met_get0 H.tb (i := F'.length + 8 + 1) ck ([(pb56 i0), (pb48 i0), (pb40 i0), (pb32 i0), (pb24 i0), (pb16 i0), (pb8 i0), (pb0 i0), (pb56 i1), (pb48 i1), (pb40 i1), (pb32 i1), (pb24 i1), (pb16 i1), (pb8 i1), (pb0 i1)] : List Int32) (pb56 i0) (pb48 i0) (pb40 i0) (pb32 i0) (pb24 i0) (pb16 i0) (pb8 i0) (pb0 i0) (own_app rfl) rfl rfl rfl rfl rfl rfl rfl rfl) at_129 (mem (i := 62) rfl) (mem (i := 63) rfl) (mem (i := 3) rfl) (mem (i := 64) rfl) (by decide) pd_11 rfl (rest := []) rfl rfl (by decide) (Nat.le_of_ble_eq_true rfl) (cn' := 16) (sn' := 148) rfl rfl (by decide) (by decide) (pc' := 132) rfl (fun v0 M0 hq => ?_)
      obtain ⟨rfl, hm0⟩ := hq
      subst M0
      show Go Z k 16 148 ((kr, ArI Z .byte ([(pb56 (i0 ^^^ i1 ^^^ (i2 ^^^ i3))), (pb48 (i0 ^^^ i1 ^^^ (i2 ^^^ i3))), (pb40 (i0 ^^^ i1 ^^^ (i2 ^^^ i3))), (pb32 (i0 ^^^ i1 ^^^ (i2 ^^^ i3))), (pb24 (i0 ^^^ i1 ^^^ (i2 ^^^ i3))), (pb16 (i0 ^^^ i1 ^^^ (i2 ^^^ i3))), (pb8 (i0 ^^^ i1 ^^^ (i2 ^^^ i3))), (pb0 (i0 ^^^ i1 ^^^ (i2 ^^^ i3)))] : List Int32)) :: F' ++ ((a7, ArI Z .byte ([(0 : Int32), (0 : Int32), (0 : Int32), (0 : Int32), (0 : Int32), (0 : Int32), (0 : Int32), (0 : Int32), (0 : Int32), (0 : Int32), (0 : Int32), (0 : Int32), (0 : Int32), (0 : Int32), (0 : Int32), (0 : Int32)] : List Int32)) :: (a6, ArI Z .byte ([(0 : Int32), (0 : Int32), (0 : Int32), (0 : Int32), (0 : Int32), (0 : Int32)] : List Int32)) :: (a5, ArI Z .byte ([(0 : Int32), (0 : Int32), (0 : Int32), (0 : Int32), (0 : Int32), (0 : Int32)] : List Int32)) :: (a4, ArI Z .byte ([(0 : Int32), (0 : Int32), (0 : Int32), (0 : Int32), (0 : Int32), (0 : Int32), (0 : Int32), (0 : Int32)] : List Int32)) :: (a3, ArI Z .byte ([(0 : Int32), (0 : Int32), (0 : Int32), (0 : Int32), (0 : Int32), (0 : Int32), (0 : Int32), (0 : Int32)] : List Int32)) :: (a2, ArI Z .byte ([(0 : Int32), (0 : Int32), (0 : Int32), (0 : Int32), (0 : Int32), (0 : Int32), (0 : Int32), (0 : Int32)] : List Int32)) :: (a1, Obj Z "com/example/quintet/quintet/Milenage$Outputs" [("com/example/quintet/quintet/Milenage$Outputs", "macA", "[B", (.ref a2)), ("com/example/quintet/quintet/Milenage$Outputs", "macS", "[B", (.ref a3)), ("com/example/quintet/quintet/Milenage$Outputs", "res", "[B", (.ref a4)), ("com/example/quintet/quintet/Milenage$Outputs", "ck", "[B", (.ref ck)), ("com/example/quintet/quintet/Milenage$Outputs", "ik", "[B", (.ref ik)), ("com/example/quintet/quintet/Milenage$Outputs", "ak", "[B", (.ref a5)), ("com/example/quintet/quintet/Milenage$Outputs", "akStar", "[B", (.ref a6)), ("com/example/quintet/quintet/Milenage$Outputs", "autn", "[B", (.ref a7))]) :: (ik, ArI Z .byte ([(pb56 i2), (pb48 i2), (pb40 i2), (pb32 i2), (pb24 i2), (pb16 i2), (pb8 i2), (pb0 i2), (pb56 i3), (pb48 i3), (pb40 i3), (pb32 i3), (pb24 i3), (pb16 i3), (pb8 i3), (pb0 i3)] : List Int32)) :: (ck, ArI Z .byte ([(pb56 i0), (pb48 i0), (pb40 i0), (pb32 i0), (pb24 i0), (pb16 i0), (pb8 i0), (pb0 i0), (pb56 i1), (pb48 i1), (pb40 i1), (pb32 i1), (pb24 i1), (pb16 i1), (pb8 i1), (pb0 i1)] : List Int32)) :: [])) 132 #[.val (.long i0), .second, .val (.long i1), .second, .val (.long i2), .second, .val (.long i3), .second, .val (.ref ck), .val (.ref ik), .val (.ref a1), .val (.ref kr), .val (.long ex), .second] [(.long (g8 (pb56 i0) (pb48 i0) (pb40 i0) (pb32 i0) (pb24 i0) (pb16 i0) (pb8 i0) (pb0 i0)))]
      rw [own_get8]
      show Go Z k 16 148 ((kr, ArI Z .byte ([(pb56 (i0 ^^^ i1 ^^^ (i2 ^^^ i3))), (pb48 (i0 ^^^ i1 ^^^ (i2 ^^^ i3))), (pb40 (i0 ^^^ i1 ^^^ (i2 ^^^ i3))), (pb32 (i0 ^^^ i1 ^^^ (i2 ^^^ i3))), (pb24 (i0 ^^^ i1 ^^^ (i2 ^^^ i3))), (pb16 (i0 ^^^ i1 ^^^ (i2 ^^^ i3))), (pb8 (i0 ^^^ i1 ^^^ (i2 ^^^ i3))), (pb0 (i0 ^^^ i1 ^^^ (i2 ^^^ i3)))] : List Int32)) :: F' ++ ((a7, ArI Z .byte ([(0 : Int32), (0 : Int32), (0 : Int32), (0 : Int32), (0 : Int32), (0 : Int32), (0 : Int32), (0 : Int32), (0 : Int32), (0 : Int32), (0 : Int32), (0 : Int32), (0 : Int32), (0 : Int32), (0 : Int32), (0 : Int32)] : List Int32)) :: (a6, ArI Z .byte ([(0 : Int32), (0 : Int32), (0 : Int32), (0 : Int32), (0 : Int32), (0 : Int32)] : List Int32)) :: (a5, ArI Z .byte ([(0 : Int32), (0 : Int32), (0 : Int32), (0 : Int32), (0 : Int32), (0 : Int32)] : List Int32)) :: (a4, ArI Z .byte ([(0 : Int32), (0 : Int32), (0 : Int32), (0 : Int32), (0 : Int32), (0 : Int32), (0 : Int32), (0 : Int32)] : List Int32)) :: (a3, ArI Z .byte ([(0 : Int32), (0 : Int32), (0 : Int32), (0 : Int32), (0 : Int32), (0 : Int32), (0 : Int32), (0 : Int32)] : List Int32)) :: (a2, ArI Z .byte ([(0 : Int32), (0 : Int32), (0 : Int32), (0 : Int32), (0 : Int32), (0 : Int32), (0 : Int32), (0 : Int32)] : List Int32)) :: (a1, Obj Z "com/example/quintet/quintet/Milenage$Outputs" [("com/example/quintet/quintet/Milenage$Outputs", "macA", "[B", (.ref a2)), ("com/example/quintet/quintet/Milenage$Outputs", "macS", "[B", (.ref a3)), ("com/example/quintet/quintet/Milenage$Outputs", "res", "[B", (.ref a4)), ("com/example/quintet/quintet/Milenage$Outputs", "ck", "[B", (.ref ck)), ("com/example/quintet/quintet/Milenage$Outputs", "ik", "[B", (.ref ik)), ("com/example/quintet/quintet/Milenage$Outputs", "ak", "[B", (.ref a5)), ("com/example/quintet/quintet/Milenage$Outputs", "akStar", "[B", (.ref a6)), ("com/example/quintet/quintet/Milenage$Outputs", "autn", "[B", (.ref a7))]) :: (ik, ArI Z .byte ([(pb56 i2), (pb48 i2), (pb40 i2), (pb32 i2), (pb24 i2), (pb16 i2), (pb8 i2), (pb0 i2), (pb56 i3), (pb48 i3), (pb40 i3), (pb32 i3), (pb24 i3), (pb16 i3), (pb8 i3), (pb0 i3)] : List Int32)) :: (ck, ArI Z .byte ([(pb56 i0), (pb48 i0), (pb40 i0), (pb32 i0), (pb24 i0), (pb16 i0), (pb8 i0), (pb0 i0), (pb56 i1), (pb48 i1), (pb40 i1), (pb32 i1), (pb24 i1), (pb16 i1), (pb8 i1), (pb0 i1)] : List Int32)) :: [])) 132 #[.val (.long i0), .second, .val (.long i1), .second, .val (.long i2), .second, .val (.long i3), .second, .val (.ref ck), .val (.ref ik), .val (.ref a1), .val (.ref kr), .val (.long ex), .second] [(.long i0)]
      refine s_lloadn H at_132 rfl (pc' := 133) rfl ?_
      refine s_lcmp H at_133 (pc' := 134) rfl ?_
      refine s_if H at_134 (py := 178) (pc' := 137) l_ne (by decide) rfl (fun c134 => ?_) (fun c134 => ?_)
      · exact absurd rfl c134
      · refine s_aload H at_137 rfl rfl (pc' := 139) rfl ?_
        refine s_bipush H at_139 (z := (8 : Int32)) (by decide) (pc' := 141) rfl ?_
        refine s_static H (met_get8 H.tb (i := F'.length + 8 + 1) ck ([(pb56 i0), (pb48 i0), (pb40 i0), (pb32 i0), (pb24 i0), (pb16 i0), (pb8 i0), (pb0 i0), (pb56 i1), (pb48 i1), (pb40 i1), (pb32 i1), (pb24 i1), (pb16 i1), (pb8 i1), (pb0 i1)] : List Int32) (pb56 i1) (pb48 i1) (pb40 i1) (pb32 i1) (pb24 i1) (pb16 i1) (pb8 i1) (pb0 i1) (own_app rfl) rfl rfl rfl rfl rfl rfl rfl rfl) at_141 (mem (i := 62) rfl) (mem (i := 63) rfl) (mem (i := 3) rfl) (mem (i := 64) rfl) (by decide) pd_11 rfl (rest := []) rfl rfl (by decide) (Nat.le_of_ble_eq_true rfl) (cn' := 16) (sn' := 148) rfl rfl (by decide) (by decide) (pc' := 144) rfl (fun v0 M0 hq => ?_)
        obtain ⟨rfl, hm0⟩ := hq
        subst M0
        show Go Z k 16 148 ((kr, ArI Z .byte ([(pb56 (i0 ^^^ i1 ^^^ (i2 ^^^ i3))), (pb48 (i0 ^^^ i1 ^^^ (i2 ^^^ i3))), (pb40 (i0 ^^^ i1 ^^^ (i2 ^^^ i3))), (pb32 (i0 ^^^ i1 ^^^ (i2 ^^^ i3))), (pb24 (i0 ^^^ i1 ^^^ (i2 ^^^ i3))), (pb16 (i0 ^^^ i1 ^^^ (i2 ^^^ i3))), (pb8 (i0 ^^^ i1 ^^^ (i2 ^^^ i3))), (pb0 (i0 ^^^ i1 ^^^ (i2 ^^^ i3)))] : List Int32)) :: F' ++ ((a7, ArI Z .byte ([(0 : Int32), (0 : Int32), (0 : Int32), (0 : Int32), (0 : Int32), (0 : Int32), (0 : Int32), (0 : Int32), (0 : Int32), (0 : Int32), (0 : Int32), (0 : Int32), (0 : Int32), (0 : Int32), (0 : Int32), (0 : Int32)] : List Int32)) :: (a6, ArI Z .byte ([(0 : Int32), (0 : Int32), (0 : Int32), (0 : Int32), (0 : Int32), (0 : Int32)] : List Int32)) :: (a5, ArI Z .byte ([(0 : Int32), (0 : Int32), (0 : Int32), (0 : Int32), (0 : Int32), (0 : Int32)] : List Int32)) :: (a4, ArI Z .byte ([(0 : Int32), (0 : Int32), (0 : Int32), (0 : Int32), (0 : Int32), (0 : Int32), (0 : Int32), (0 : Int32)] : List Int32)) :: (a3, ArI Z .byte ([(0 : Int32), (0 : Int32), (0 : Int32), (0 : Int32), (0 : Int32), (0 : Int32), (0 : Int32), (0 : Int32)] : List Int32)) :: (a2, ArI Z .byte ([(0 : Int32), (0 : Int32), (0 : Int32), (0 : Int32), (0 : Int32), (0 : Int32), (0 : Int32), (0 : Int32)] : List Int32)) :: (a1, Obj Z "com/example/quintet/quintet/Milenage$Outputs" [("com/example/quintet/quintet/Milenage$Outputs", "macA", "[B", (.ref a2)), ("com/example/quintet/quintet/Milenage$Outputs", "macS", "[B", (.ref a3)), ("com/example/quintet/quintet/Milenage$Outputs", "res", "[B", (.ref a4)), ("com/example/quintet/quintet/Milenage$Outputs", "ck", "[B", (.ref ck)), ("com/example/quintet/quintet/Milenage$Outputs", "ik", "[B", (.ref ik)), ("com/example/quintet/quintet/Milenage$Outputs", "ak", "[B", (.ref a5)), ("com/example/quintet/quintet/Milenage$Outputs", "akStar", "[B", (.ref a6)), ("com/example/quintet/quintet/Milenage$Outputs", "autn", "[B", (.ref a7))]) :: (ik, ArI Z .byte ([(pb56 i2), (pb48 i2), (pb40 i2), (pb32 i2), (pb24 i2), (pb16 i2), (pb8 i2), (pb0 i2), (pb56 i3), (pb48 i3), (pb40 i3), (pb32 i3), (pb24 i3), (pb16 i3), (pb8 i3), (pb0 i3)] : List Int32)) :: (ck, ArI Z .byte ([(pb56 i0), (pb48 i0), (pb40 i0), (pb32 i0), (pb24 i0), (pb16 i0), (pb8 i0), (pb0 i0), (pb56 i1), (pb48 i1), (pb40 i1), (pb32 i1), (pb24 i1), (pb16 i1), (pb8 i1), (pb0 i1)] : List Int32)) :: [])) 144 #[.val (.long i0), .second, .val (.long i1), .second, .val (.long i2), .second, .val (.long i3), .second, .val (.ref ck), .val (.ref ik), .val (.ref a1), .val (.ref kr), .val (.long ex), .second] [(.long (g8 (pb56 i1) (pb48 i1) (pb40 i1) (pb32 i1) (pb24 i1) (pb16 i1) (pb8 i1) (pb0 i1)))]
        rw [own_get8]
        show Go Z k 16 148 ((kr, ArI Z .byte ([(pb56 (i0 ^^^ i1 ^^^ (i2 ^^^ i3))), (pb48 (i0 ^^^ i1 ^^^ (i2 ^^^ i3))), (pb40 (i0 ^^^ i1 ^^^ (i2 ^^^ i3))), (pb32 (i0 ^^^ i1 ^^^ (i2 ^^^ i3))), (pb24 (i0 ^^^ i1 ^^^ (i2 ^^^ i3))), (pb16 (i0 ^^^ i1 ^^^ (i2 ^^^ i3))), (pb8 (i0 ^^^ i1 ^^^ (i2 ^^^ i3))), (pb0 (i0 ^^^ i1 ^^^ (i2 ^^^ i3)))] : List Int32)) :: F' ++ ((a7, ArI Z .byte ([(0 : Int32), (0 : Int32), (0 : Int32), (0 : Int32), (0 : Int32), (0 : Int32), (0 : Int32), (0 : Int32), (0 : Int32), (0 : Int32), (0 : Int32), (0 : Int32), (0 : Int32), (0 : Int32), (0 : Int32), (0 : Int32)] : List Int32)) :: (a6, ArI Z .byte ([(0 : Int32), (0 : Int32), (0 : Int32), (0 : Int32), (0 : Int32), (0 : Int32)] : List Int32)) :: (a5, ArI Z .byte ([(0 : Int32), (0 : Int32), (0 : Int32), (0 : Int32), (0 : Int32), (0 : Int32)] : List Int32)) :: (a4, ArI Z .byte ([(0 : Int32), (0 : Int32), (0 : Int32), (0 : Int32), (0 : Int32), (0 : Int32), (0 : Int32), (0 : Int32)] : List Int32)) :: (a3, ArI Z .byte ([(0 : Int32), (0 : Int32), (0 : Int32), (0 : Int32), (0 : Int32), (0 : Int32), (0 : Int32), (0 : Int32)] : List Int32)) :: (a2, ArI Z .byte ([(0 : Int32), (0 : Int32), (0 : Int32), (0 : Int32), (0 : Int32), (0 : Int32), (0 : Int32), (0 : Int32)] : List Int32)) :: (a1, Obj Z "com/example/quintet/quintet/Milenage$Outputs" [("com/example/quintet/quintet/Milenage$Outputs", "macA", "[B", (.ref a2)), ("com/example/quintet/quintet/Milenage$Outputs", "macS", "[B", (.ref a3)), ("com/example/quintet/quintet/Milenage$Outputs", "res", "[B", (.ref a4)), ("com/example/quintet/quintet/Milenage$Outputs", "ck", "[B", (.ref ck)), ("com/example/quintet/quintet/Milenage$Outputs", "ik", "[B", (.ref ik)), ("com/example/quintet/quintet/Milenage$Outputs", "ak", "[B", (.ref a5)), ("com/example/quintet/quintet/Milenage$Outputs", "akStar", "[B", (.ref a6)), ("com/example/quintet/quintet/Milenage$Outputs", "autn", "[B", (.ref a7))]) :: (ik, ArI Z .byte ([(pb56 i2), (pb48 i2), (pb40 i2), (pb32 i2), (pb24 i2), (pb16 i2), (pb8 i2), (pb0 i2), (pb56 i3), (pb48 i3), (pb40 i3), (pb32 i3), (pb24 i3), (pb16 i3), (pb8 i3), (pb0 i3)] : List Int32)) :: (ck, ArI Z .byte ([(pb56 i0), (pb48 i0), (pb40 i0), (pb32 i0), (pb24 i0), (pb16 i0), (pb8 i0), (pb0 i0), (pb56 i1), (pb48 i1), (pb40 i1), (pb32 i1), (pb24 i1), (pb16 i1), (pb8 i1), (pb0 i1)] : List Int32)) :: [])) 144 #[.val (.long i0), .second, .val (.long i1), .second, .val (.long i2), .second, .val (.long i3), .second, .val (.ref ck), .val (.ref ik), .val (.ref a1), .val (.ref kr), .val (.long ex), .second] [(.long i1)]
        refine s_lloadn H at_144 rfl (pc' := 145) rfl ?_
        refine s_lcmp H at_145 (pc' := 146) rfl ?_
        refine s_if H at_146 (py := 178) (pc' := 149) l_ne (by decide) rfl (fun c146 => ?_) (fun c146 => ?_)
        · exact absurd rfl c146
        · refine s_aload H at_149 rfl rfl (pc' := 151) rfl ?_
          refine s_iconst H at_151 (z := (0 : Int32)) (by decide) (pc' := 152) rfl ?_
          refine s_static H (met_get0 H.tb (i := F'.length + 7 + 1) ik ([(pb56 i2), (pb48 i2), (pb40 i2), (pb32 i2), (pb24 i2), (pb16 i2), (pb8 i2), (pb0 i2), (pb56 i3), (pb48 i3), (pb40 i3), (pb32 i3), (pb24 i3), (pb16 i3), (pb8 i3), (pb0 i3)] : List Int32) (pb56 i2) (pb48 i2) (pb40 i2) (pb32 i2) (pb24 i2) (pb16 i2) (pb8 i2) (pb0 i2) (own_app rfl) rfl rfl rfl rfl rfl rfl rfl rfl) at_152 (mem (i := 62) rfl) (mem (i := 63) rfl) (mem (i := 3) rfl) (mem (i := 64) rfl) (by decide) pd_11 rfl (rest := []) rfl rfl (by decide) (Nat.le_of_ble_eq_true rfl) (cn' := 16) (sn' := 148) rfl rfl (by decide) (by decide) (pc' := 155) rfl (fun v0 M0 hq => ?_)
          obtain ⟨rfl, hm0⟩ := hq
          subst M0
          show Go Z k 16 148 ((kr, ArI Z .byte ([(pb56 (i0 ^^^ i1 ^^^ (i2 ^^^ i3))), (pb48 (i0 ^^^ i1 ^^^ (i2 ^^^ i3))), (pb40 (i0 ^^^ i1 ^^^ (i2 ^^^ i3))), (pb32 (i0 ^^^ i1 ^^^ (i2 ^^^ i3))), (pb24 (i0 ^^^ i1 ^^^ (i2 ^^^ i3))), (pb16 (i0 ^^^ i1 ^^^ (i2 ^^^ i3))), (pb8 (i0 ^^^ i1 ^^^ (i2 ^^^ i3))), (pb0 (i0 ^^^ i1 ^^^ (i2 ^^^ i3)))] : List Int32)) :: F' ++ ((a7, ArI Z .byte ([(0 : Int32), (0 : Int32), (0 : Int32), (0 : Int32), (0 : Int32), (0 : Int32), (0 : Int32), (0 : Int32), (0 : Int32), (0 : Int32), (0 : Int32), (0 : Int32), (0 : Int32), (0 : Int32), (0 : Int32), (0 : Int32)] : List Int32)) :: (a6, ArI Z .byte ([(0 : Int32), (0 : Int32), (0 : Int32), (0 : Int32), (0 : Int32), (0 : Int32)] : List Int32)) :: (a5, ArI Z .byte ([(0 : Int32), (0 : Int32), (0 : Int32), (0 : Int32), (0 : Int32), (0 : Int32)] : List Int32)) :: (a4, ArI Z .byte ([(0 : Int32), (0 : Int32), (0 : Int32), (0 : Int32), (0 : Int32), (0 : Int32), (0 : Int32), (0 : Int32)] : List Int32)) :: (a3, ArI Z .byte ([(0 : Int32), (0 : Int32), (0 : Int32), (0 : Int32), (0 : Int32), (0 : Int32), (0 : Int32), (0 : Int32)] : List Int32)) :: (a2, ArI Z .byte ([(0 : Int32), (0 : Int32), (0 : Int32), (0 : Int32), (0 : Int32), (0 : Int32), (0 : Int32), (0 : Int32)] : List Int32)) :: (a1, Obj Z "com/example/quintet/quintet/Milenage$Outputs" [("com/example/quintet/quintet/Milenage$Outputs", "macA", "[B", (.ref a2)), ("com/example/quintet/quintet/Milenage$Outputs", "macS", "[B", (.ref a3)), ("com/example/quintet/quintet/Milenage$Outputs", "res", "[B", (.ref a4)), ("com/example/quintet/quintet/Milenage$Outputs", "ck", "[B", (.ref ck)), ("com/example/quintet/quintet/Milenage$Outputs", "ik", "[B", (.ref ik)), ("com/example/quintet/quintet/Milenage$Outputs", "ak", "[B", (.ref a5)), ("com/example/quintet/quintet/Milenage$Outputs", "akStar", "[B", (.ref a6)), ("com/example/quintet/quintet/Milenage$Outputs", "autn", "[B", (.ref a7))]) :: (ik, ArI Z .byte ([(pb56 i2), (pb48 i2), (pb40 i2), (pb32 i2), (pb24 i2), (pb16 i2), (pb8 i2), (pb0 i2), (pb56 i3), (pb48 i3), (pb40 i3), (pb32 i3), (pb24 i3), (pb16 i3), (pb8 i3), (pb0 i3)] : List Int32)) :: (ck, ArI Z .byte ([(pb56 i0), (pb48 i0), (pb40 i0), (pb32 i0), (pb24 i0), (pb16 i0), (pb8 i0), (pb0 i0), (pb56 i1), (pb48 i1), (pb40 i1), (pb32 i1), (pb24 i1), (pb16 i1), (pb8 i1), (pb0 i1)] : List Int32)) :: [])) 155 #[.val (.long i0), .second, .val (.long i1), .second, .val (.long i2), .second, .val (.long i3), .second, .val (.ref ck), .val (.ref ik), .val (.ref a1), .val (.ref kr), .val (.long ex), .second] [(.long (g8 (pb56 i2) (pb48 i2) (pb40 i2) (pb32 i2) (pb24 i2) (pb16 i2) (pb8 i2) (pb0 i2)))]
          rw [own_get8]
          show Go Z k 16 148 ((kr, ArI Z .byte ([(pb56 (i0 ^^^ i1 ^^^ (i2 ^^^ i3))), (pb48 (i0 ^^^ i1 ^^^ (i2 ^^^ i3))), (pb40 (i0 ^^^ i1 ^^^ (i2 ^^^ i3))), (pb32 (i0 ^^^ i1 ^^^ (i2 ^^^ i3))), (pb24 (i0 ^^^ i1 ^^^ (i2 ^^^ i3))), (pb16 (i0 ^^^ i1 ^^^ (i2 ^^^ i3))), (pb8 (i0 ^^^ i1 ^^^ (i2 ^^^ i3))), (pb0 (i0 ^^^ i1 ^^^ (i2 ^^^ i3)))] : List Int32)) :: F' ++ ((a7, ArI Z .byte ([(0 : Int32), (0 : Int32), (0 : Int32), (0 : Int32), (0 : Int32), (0 : Int32), (0 : Int32), (0 : Int32), (0 : Int32), (0 : Int32), (0 : Int32), (0 : Int32), (0 : Int32), (0 : Int32), (0 : Int32), (0 : Int32)] : List Int32)) :: (a6, ArI Z .byte ([(0 : Int32), (0 : Int32), (0 : Int32), (0 : Int32), (0 : Int32), (0 : Int32)] : List Int32)) :: (a5, ArI Z .byte ([(0 : Int32), (0 : Int32), (0 : Int32), (0 : Int32), (0 : Int32), (0 : Int32)] : List Int32)) :: (a4, ArI Z .byte ([(0 : Int32), (0 : Int32), (0 : Int32), (0 : Int32), (0 : Int32), (0 : Int32), (0 : Int32), (0 : Int32)] : List Int32)) :: (a3, ArI Z .byte ([(0 : Int32), (0 : Int32), (0 : Int32), (0 : Int32), (0 : Int32), (0 : Int32), (0 : Int32), (0 : Int32)] : List Int32)) :: (a2, ArI Z .byte ([(0 : Int32), (0 : Int32), (0 : Int32), (0 : Int32), (0 : Int32), (0 : Int32), (0 : Int32), (0 : Int32)] : List Int32)) :: (a1, Obj Z "com/example/quintet/quintet/Milenage$Outputs" [("com/example/quintet/quintet/Milenage$Outputs", "macA", "[B", (.ref a2)), ("com/example/quintet/quintet/Milenage$Outputs", "macS", "[B", (.ref a3)), ("com/example/quintet/quintet/Milenage$Outputs", "res", "[B", (.ref a4)), ("com/example/quintet/quintet/Milenage$Outputs", "ck", "[B", (.ref ck)), ("com/example/quintet/quintet/Milenage$Outputs", "ik", "[B", (.ref ik)), ("com/example/quintet/quintet/Milenage$Outputs", "ak", "[B", (.ref a5)), ("com/example/quintet/quintet/Milenage$Outputs", "akStar", "[B", (.ref a6)), ("com/example/quintet/quintet/Milenage$Outputs", "autn", "[B", (.ref a7))]) :: (ik, ArI Z .byte ([(pb56 i2), (pb48 i2), (pb40 i2), (pb32 i2), (pb24 i2), (pb16 i2), (pb8 i2), (pb0 i2), (pb56 i3), (pb48 i3), (pb40 i3), (pb32 i3), (pb24 i3), (pb16 i3), (pb8 i3), (pb0 i3)] : List Int32)) :: (ck, ArI Z .byte ([(pb56 i0), (pb48 i0), (pb40 i0), (pb32 i0), (pb24 i0), (pb16 i0), (pb8 i0), (pb0 i0), (pb56 i1), (pb48 i1), (pb40 i1), (pb32 i1), (pb24 i1), (pb16 i1), (pb8 i1), (pb0 i1)] : List Int32)) :: [])) 155 #[.val (.long i0), .second, .val (.long i1), .second, .val (.long i2), .second, .val (.long i3), .second, .val (.ref ck), .val (.ref ik), .val (.ref a1), .val (.ref kr), .val (.long ex), .second] [(.long i2)]
          refine s_lload H at_155 rfl (pc' := 157) rfl ?_
          refine s_lcmp H at_157 (pc' := 158) rfl ?_
          refine s_if H at_158 (py := 178) (pc' := 161) l_ne (by decide) rfl (fun c158 => ?_) (fun c158 => ?_)
          · exact absurd rfl c158
          · refine s_aload H at_161 rfl rfl (pc' := 163) rfl ?_
            refine s_bipush H at_163 (z := (8 : Int32)) (by decide) (pc' := 165) rfl ?_
            refine s_static H (met_get8 H.tb (i := F'.length + 7 + 1) ik ([(pb56 i2), (pb48 i2), (pb40 i2), (pb32 i2), (pb24 i2), (pb16 i2), (pb8 i2), (pb0 i2), (pb56 i3), (pb48 i3), (pb40 i3), (pb32 i3), (pb24 i3), (pb16 i3), (pb8 i3), (pb0 i3)] : List Int32) (pb56 i3) (pb48 i3) (pb40 i3) (pb32 i3) (pb24 i3) (pb16 i3) (pb8 i3) (pb0 i3) (own_app rfl) rfl rfl rfl rfl rfl rfl rfl rfl) at_165 (mem (i := 62) rfl) (mem (i := 63) rfl) (mem (i := 3) rfl) (mem (i := 64) rfl) (by decide) pd_11 rfl (rest := []) rfl rfl (by decide) (Nat.le_of_ble_eq_true rfl) (cn' := 16) (sn' := 148) rfl rfl (by decide) (by decide) (pc' := 168) rfl (fun v0 M0 hq => ?_)
            obtain ⟨rfl, hm0⟩ := hq
            subst M0
            show Go Z k 16 148 ((kr, ArI Z .byte ([(pb56 (i0 ^^^ i1 ^^^ (i2 ^^^ i3))), (pb48 (i0 ^^^ i1 ^^^ (i2 ^^^ i3))), (pb40 (i0 ^^^ i1 ^^^ (i2 ^^^ i3))), (pb32 (i0 ^^^ i1 ^^^ (i2 ^^^ i3))), (pb24 (i0 ^^^ i1 ^^^ (i2 ^^^ i3))), (pb16 (i0 ^^^ i1 ^^^ (i2 ^^^ i3))), (pb8 (i0 ^^^ i1 ^^^ (i2 ^^^ i3))), (pb0 (i0 ^^^ i1 ^^^ (i2 ^^^ i3)))] : List Int32)) :: F' ++ ((a7, ArI Z .byte ([(0 : Int32), (0 : Int32), (0 : Int32), (0 : Int32), (0 : Int32), (0 : Int32), (0 : Int32), (0 : Int32), (0 : Int32), (0 : Int32), (0 : Int32), (0 : Int32), (0 : Int32), (0 : Int32), (0 : Int32), (0 : Int32)] : List Int32)) :: (a6, ArI Z .byte ([(0 : Int32), (0 : Int32), (0 : Int32), (0 : Int32), (0 : Int32), (0 : Int32)] : List Int32)) :: (a5, ArI Z .byte ([(0 : Int32), (0 : Int32), (0 : Int32), (0 : Int32), (0 : Int32), (0 : Int32)] : List Int32)) :: (a4, ArI Z .byte ([(0 : Int32), (0 : Int32), (0 : Int32), (0 : Int32), (0 : Int32), (0 : Int32), (0 : Int32), (0 : Int32)] : List Int32)) :: (a3, ArI Z .byte ([(0 : Int32), (0 : Int32), (0 : Int32), (0 : Int32), (0 : Int32), (0 : Int32), (0 : Int32), (0 : Int32)] : List Int32)) :: (a2, ArI Z .byte ([(0 : Int32), (0 : Int32), (0 : Int32), (0 : Int32), (0 : Int32), (0 : Int32), (0 : Int32), (0 : Int32)] : List Int32)) :: (a1, Obj Z "com/example/quintet/quintet/Milenage$Outputs" [("com/example/quintet/quintet/Milenage$Outputs", "macA", "[B", (.ref a2)), ("com/example/quintet/quintet/Milenage$Outputs", "macS", "[B", (.ref a3)), ("com/example/quintet/quintet/Milenage$Outputs", "res", "[B", (.ref a4)), ("com/example/quintet/quintet/Milenage$Outputs", "ck", "[B", (.ref ck)), ("com/example/quintet/quintet/Milenage$Outputs", "ik", "[B", (.ref ik)), ("com/example/quintet/quintet/Milenage$Outputs", "ak", "[B", (.ref a5)), ("com/example/quintet/quintet/Milenage$Outputs", "akStar", "[B", (.ref a6)), ("com/example/quintet/quintet/Milenage$Outputs", "autn", "[B", (.ref a7))]) :: (ik, ArI Z .byte ([(pb56 i2), (pb48 i2), (pb40 i2), (pb32 i2), (pb24 i2), (pb16 i2), (pb8 i2), (pb0 i2), (pb56 i3), (pb48 i3), (pb40 i3), (pb32 i3), (pb24 i3), (pb16 i3), (pb8 i3), (pb0 i3)] : List Int32)) :: (ck, ArI Z .byte ([(pb56 i0), (pb48 i0), (pb40 i0), (pb32 i0), (pb24 i0), (pb16 i0), (pb8 i0), (pb0 i0), (pb56 i1), (pb48 i1), (pb40 i1), (pb32 i1), (pb24 i1), (pb16 i1), (pb8 i1), (pb0 i1)] : List Int32)) :: [])) 168 #[.val (.long i0), .second, .val (.long i1), .second, .val (.long i2), .second, .val (.long i3), .second, .val (.ref ck), .val (.ref ik), .val (.ref a1), .val (.ref kr), .val (.long ex), .second] [(.long (g8 (pb56 i3) (pb48 i3) (pb40 i3) (pb32 i3) (pb24 i3) (pb16 i3) (pb8 i3) (pb0 i3)))]
            rw [own_get8]
            show Go Z k 16 148 ((kr, ArI Z .byte ([(pb56 (i0 ^^^ i1 ^^^ (i2 ^^^ i3))), (pb48 (i0 ^^^ i1 ^^^ (i2 ^^^ i3))), (pb40 (i0 ^^^ i1 ^^^ (i2 ^^^ i3))), (pb32 (i0 ^^^ i1 ^^^ (i2 ^^^ i3))), (pb24 (i0 ^^^ i1 ^^^ (i2 ^^^ i3))), (pb16 (i0 ^^^ i1 ^^^ (i2 ^^^ i3))), (pb8 (i0 ^^^ i1 ^^^ (i2 ^^^ i3))), (pb0 (i0 ^^^ i1 ^^^ (i2 ^^^ i3)))] : List Int32)) :: F' ++ ((a7, ArI Z .byte ([(0 : Int32), (0 : Int32), (0 : Int32), (0 : Int32), (0 : Int32), (0 : Int32), (0 : Int32), (0 : Int32), (0 : Int32), (0 : Int32), (0 : Int32), (0 : Int32), (0 : Int32), (0 : Int32), (0 : Int32), (0 : Int32)] : List Int32)) :: (a6, ArI Z .byte ([(0 : Int32), (0 : Int32), (0 : Int32), (0 : Int32), (0 : Int32), (0 : Int32)] : List Int32)) :: (a5, ArI Z .byte ([(0 : Int32), (0 : Int32), (0 : Int32), (0 : Int32), (0 : Int32), (0 : Int32)] : List Int32)) :: (a4, ArI Z .byte ([(0 : Int32), (0 : Int32), (0 : Int32), (0 : Int32), (0 : Int32), (0 : Int32), (0 : Int32), (0 : Int32)] : List Int32)) :: (a3, ArI Z .byte ([(0 : Int32), (0 : Int32), (0 : Int32), (0 : Int32), (0 : Int32), (0 : Int32), (0 : Int32), (0 : Int32)] : List Int32)) :: (a2, ArI Z .byte ([(0 : Int32), (0 : Int32), (0 : Int32), (0 : Int32), (0 : Int32), (0 : Int32), (0 : Int32), (0 : Int32)] : List Int32)) :: (a1, Obj Z "com/example/quintet/quintet/Milenage$Outputs" [("com/example/quintet/quintet/Milenage$Outputs", "macA", "[B", (.ref a2)), ("com/example/quintet/quintet/Milenage$Outputs", "macS", "[B", (.ref a3)), ("com/example/quintet/quintet/Milenage$Outputs", "res", "[B", (.ref a4)), ("com/example/quintet/quintet/Milenage$Outputs", "ck", "[B", (.ref ck)), ("com/example/quintet/quintet/Milenage$Outputs", "ik", "[B", (.ref ik)), ("com/example/quintet/quintet/Milenage$Outputs", "ak", "[B", (.ref a5)), ("com/example/quintet/quintet/Milenage$Outputs", "akStar", "[B", (.ref a6)), ("com/example/quintet/quintet/Milenage$Outputs", "autn", "[B", (.ref a7))]) :: (ik, ArI Z .byte ([(pb56 i2), (pb48 i2), (pb40 i2), (pb32 i2), (pb24 i2), (pb16 i2), (pb8 i2), (pb0 i2), (pb56 i3), (pb48 i3), (pb40 i3), (pb32 i3), (pb24 i3), (pb16 i3), (pb8 i3), (pb0 i3)] : List Int32)) :: (ck, ArI Z .byte ([(pb56 i0), (pb48 i0), (pb40 i0), (pb32 i0), (pb24 i0), (pb16 i0), (pb8 i0), (pb0 i0), (pb56 i1), (pb48 i1), (pb40 i1), (pb32 i1), (pb24 i1), (pb16 i1), (pb8 i1), (pb0 i1)] : List Int32)) :: [])) 168 #[.val (.long i0), .second, .val (.long i1), .second, .val (.long i2), .second, .val (.long i3), .second, .val (.ref ck), .val (.ref ik), .val (.ref a1), .val (.ref kr), .val (.long ex), .second] [(.long i3)]
            refine s_lload H at_168 rfl (pc' := 170) rfl ?_
            refine s_lcmp H at_170 (pc' := 171) rfl ?_
            refine s_if H at_171 (py := 178) (pc' := 174) l_ne (by decide) rfl (fun c171 => ?_) (fun c171 => ?_)
            · exact absurd rfl c171
            · refine s_iconst H at_174 (z := (1 : Int32)) (by decide) (pc' := 175) rfl ?_
              refine s_goto H at_175 (pc' := 179) (by decide) ?_
              exact s_iret H at_179 rfl (by simp) (by decide) (by decide) (rfl)
  · exact absurd c98 (by decide)
theorem pl_0 : plainFor x = true := plainFor_of_name (by first | (simp [plainName, overriddenIn, x]; done) | decide +kernel)
set_option maxRecDepth 65536 in
set_option maxHeartbeats 40000000 in
theorem met_law {Z : State} (HT : Tb Z) (l : Launch) (ws : List Jvm.Cond) (i0 : Int64) (i1 : Int64) (i2 : Int64) (i3 : Int64) (h0 : Heap) (hO : Own Z h0 []) :
    MetFree l x (head1 (Jvm.Cond.code x code maxLocals ret :: ws) room_1) (fun a U => a = [(.long i0), (.long i1), (.long i2), (.long i3)].toArray ∧ Z.Warmed39 U.vm ∧ U.heap = h0) (fun _ _ _ _ _ => True) (fun _ U o U' => ∃ v L, o = .returned v ∧ (Fr Z.heap.size L ∧ ∃ M, LQ v M ∧ Own Z U'.heap M) ∧ FrameEnd U o U' L room_1.cells room_1.slots) :=
  met_of l HT pl_0 (Ls := #[.val (.long i0), .second, .val (.long i1), .second, .val (.long i2), .second, .val (.long i3), .second, .unset, .unset, .unset, .unset, .unset, .unset]) (fun m => by first | (simp [entryFrame, mkF, argsToLocals, Value.category, maxLocals]; done) | rfl) hO (fun k H => s0 H)
set_option maxRecDepth 65536 in
set_option maxHeartbeats 40000000 in
theorem comes_1 {Post : Tables → Env → Array Value → State → Outcome → State → Prop} (hpost : ∀ tb e args s v u, (limb_1_1.after args s (.returned v) u = true ∧ limb_1_2.after args s (.returned v) u = true ∧ True) → FrameEnd s (.returned v) u (Jvm.fieldLocs frame_1_writes args s ++ Jvm.arrayLocs frame_1_arrays args s ++ Jvm.staticLocs frame_1_statics s) 40 384 → Post tb e args s (.returned v) u) :
    ArmFor flags0 classFile x code maxLocals ret World_1 tables_1 room_1 Calls_1 rest_1 Pre_1 Post := by
  intro l hfl _ _ p e ha hc hk s m args below hf hA hF happ hP
  obtain ⟨hcalls, hrest, hpre⟩ := hP
  obtain ⟨-, -, -, hnamed, -, -, -, hat⟩ := (Spec.applies_iff hf).mp happ
  obtain ⟨hg, hn⟩ := and_e (Cond.before_iff.mp (show (Jvm.Cond.and given_1 narrow_1).before args s = true from hpre))
  obtain ⟨hcnt, hg0⟩ := and_e hg
  obtain ⟨hv0, hg1⟩ := and_e hg0
  obtain ⟨hv1, hg2⟩ := and_e hg1
  obtain ⟨hv2, hg3⟩ := and_e hg2
  obtain ⟨w0, w1, w2, w3, rfl⟩ : ∃ w0 w1 w2 w3 : Value, args = #[w0, w1, w2, w3] := by
    have hs : args.size = 4 := by simpa [Cond.value, given_1] using hcnt
    obtain ⟨L⟩ := args
    match L, hs with
    | [w0, w1, w2, w3], _ => exact ⟨w0, w1, w2, w3, rfl⟩
  have hw := fun d (hd : d ∈ tables_1) => atoms_spec (ws := Jvm.Cond.code x code maxLocals ret :: tables_1) hat d (List.mem_cons_of_mem _ hd)
  obtain ⟨i0, ei0⟩ := isL_v hv0
  obtain rfl : w0 = (.long i0) := Option.some.inj ei0
  obtain ⟨i1, ei1⟩ := isL_v hv1
  obtain rfl : w1 = (.long i1) := Option.some.inj ei1
  obtain ⟨i2, ei2⟩ := isL_v hv2
  obtain rfl : w2 = (.long i2) := Option.some.inj ei2
  obtain ⟨i3, ei3⟩ := isL_v hg3
  obtain rfl : w3 = (.long i3) := Option.some.inj ei3
  have hO : Own s s.heap [] := ⟨⟨Nat.le_refl _, fun _ _ q => q⟩, fun i x hx => (by cases hx), fun i j x y hx => (by cases hx)⟩
  obtain ⟨n, o, h1, h2, h3, v, L, rfl, ⟨N, M, hv, -⟩, hq⟩ := met_law (Z := s) ⟨_, hw⟩ l tables_1 i0 i1 i2 i3 s.heap hO p e ha hc hk s m _ below hf ((Spec.applies_iff_loose hf).mp happ).1 ⟨rfl, State.Warmed39.refl s, rfl⟩ trivial
  obtain rfl : v = some (.int 1) := hv
  exact ⟨n, _, h1, h2, h3, hpost _ _ _ _ _ _ ⟨Cond.after_iff.mpr rfl, Cond.after_iff.mpr (eq_i res_at (Term.int_eval (1)) rfl), trivial⟩ ⟨hq.1, hq.2.1, (hq.2.2.sift fun y hy => Or.inr (N y hy)).mono (by decide) (by decide)⟩⟩
theorem main_1_1 : Claimed_1_1 := comes_1 fun _ _ _ _ _ _ h hF => ⟨h.1, hF⟩
theorem main_1_2 : Claimed_1_2 := comes_1 fun _ _ _ _ _ _ h hF => ⟨h.2.1, hF⟩
end Jvm.Pilot.@@N@@
namespace Jvm.Pilot.@@N@@
open Jvm Jvm.ClassFile Sem Op Lib Jvm.Free Jvm.Stand Jvm.Pilot.@@N@@.Jvm.D
/-! MADE BY PROGRAM (witnessworld.py) out of the Statement's table words and the real class files: 14 classes; the members and pool entries that the words name. The judged class is class 1, her method 1. -/
namespace start1
open Jvm.ClassFile
def u (s : String) : CpInfo := .utf8 (stringToUtf16 s)
/-- a pool by its gaps: so many unusable entries, then the entry; so many at the end -/
def gap : Nat → List CpInfo → List CpInfo
  | 0, r => r
  | n + 1, r => .unusable :: gap n r
def poolList (es : List (Nat × CpInfo)) (last : Nat) : List CpInfo := es.foldr (fun e r => gap e.1 (e.2 :: r)) (gap last [])
def pool (es : List (Nat × CpInfo)) (last : Nat) : Array CpInfo := ⟨poolList es last⟩
def fileOf (pool : Array CpInfo) (this : Nat) (attrs : Array Attribute := #[]) (ms : Array MethodInfo := #[]) (fl : Nat := 33) (sup : Nat := 0) (ifs : Array Nat := #[]) (fds : Array FieldInfo := #[]) : ClassFile where
  minorVersion := 0
  majorVersion := 65
  constantPool := pool
  accessFlags := fl
  thisClass := this
  superClass := sup
  interfaces := ifs
  fields := fds
  methods := ms
  attributes := attrs
def plain (name : String) (sup : Option ClassId) : Class where
  name := name
  kind := .ordinary
  loader := none
  accessFlags := 33
  super := sup
  interfaces := #[]
  cf := none
  fields := #[]
  methods := #[]
  instanceTypes := #[]
  staticTypes := #[]
  resolved := #[]
  callSites := []
  init := .initialized
  statics := none
  mirror := none

def pool0 : Array CpInfo := pool [(5, u "<init>"), (0, u "()V"), (1, .class_ 10), (1, u "java/lang/Object")] 113

def k0c0 : Code := { maxStack := 0, maxLocals := 1, code := object_method_1_code, exceptionTable := #[], attributes := #[] }
def k0m0 : Method := { name := "<init>", desc := "()V", sig := { parameters := [], returnType := none }, accessFlags := 1, code := some k0c0 }
/-- java/lang/Object -/
def k0 : Class := { plain "java/lang/Object" none with
  accessFlags := 33
  interfaces := #[]
  cf := some (fileOf pool0 8 #[] #[{ accessFlags := 1, nameIndex := 5, descriptorIndex := 6, attributes := #[] }] 33 0 #[] #[])
  fields := #[]
  methods := #[k0m0]
  instanceTypes := #[]
  staticTypes := #[]
  resolved := Array.replicate 124 none
  statics := none }

def pool1 : Array CpInfo := pool [(2, .class_ 4), (1, u "java/lang/Object"), (0, u "<init>"), (0, u "()V"), (0, .methodref 8 9), (0, .class_ 10), (0, .nameAndType 11 12), (0, u "com/example/quintet/quintet/OutputsKcPinLaw"), (0, u "put"), (0, u "([BIJ)V"), (0, .class_ 14), (0, u "com/example/quintet/quintet/Milenage$Outputs"), (0, .methodref 13 16), (0, .nameAndType 5 17), (0, u "([B[B[B[B[B[B[B[B)V"), (0, .methodref 13 19), (0, .nameAndType 20 21), (0, u "kc"), (0, u "()[B"), (0, .methodref 8 23), (0, .nameAndType 24 25), (0, u "get"), (0, u "([BI)J"), (2, u "law"), (0, u "(JJJJ)Z")] 9

def k1m0 : Method := { name := "<init>", desc := "()V", sig := { parameters := [], returnType := none }, accessFlags := 1, code := none }
def k1c1 : Code := { maxStack := 10, maxLocals := 14, code := code, exceptionTable := #[], attributes := #[] }
def k1m1 : Method := { name := "law", desc := "(JJJJ)Z", sig := { parameters := [.long, .long, .long, .long], returnType := some .boolean }, accessFlags := 9, code := some k1c1 }
def k1c2 : Code := { maxStack := 5, maxLocals := 4, code := method_3_code, exceptionTable := #[], attributes := #[] }
def k1m2 : Method := { name := "put", desc := "([BIJ)V", sig := { parameters := [(.array .byte), .int, .long], returnType := none }, accessFlags := 10, code := some k1c2 }
def k1c3 : Code := { maxStack := 5, maxLocals := 2, code := method_4_code, exceptionTable := #[], attributes := #[] }
def k1m3 : Method := { name := "get", desc := "([BI)J", sig := { parameters := [(.array .byte), .int], returnType := some .long }, accessFlags := 10, code := some k1c3 }
/-- com/example/quintet/quintet/OutputsKcPinLaw -/
def k1 : Class := { plain "com/example/quintet/quintet/OutputsKcPinLaw" (some 0) with
  accessFlags := 49
  interfaces := #[]
  cf := some (fileOf pool1 8 #[] #[{ accessFlags := 1, nameIndex := 5, descriptorIndex := 6, attributes := #[] }, { accessFlags := 9, nameIndex := 28, descriptorIndex := 29, attributes := #[] }, { accessFlags := 10, nameIndex := 11, descriptorIndex := 12, attributes := #[] }, { accessFlags := 10, nameIndex := 24, descriptorIndex := 25, attributes := #[] }] 49 2 #[] #[])
  fields := #[]
  methods := #[k1m0, k1m1, k1m2, k1m3]
  instanceTypes := #[]
  staticTypes := #[]
  resolved := Array.replicate 39 none
  statics := none }

def pool2 : Array CpInfo := pool [(1, .methodref 2 3), (0, .class_ 4), (0, .nameAndType 5 6), (0, u "java/lang/Object"), (0, u "<init>"), (0, u "()V"), (0, .class_ 8), (0, u "java/lang/Record")] 13

def k2c0 : Code := { maxStack := 1, maxLocals := 1, code := jdk_30_method_1_code, exceptionTable := #[], attributes := #[] }
def k2m0 : Method := { name := "<init>", desc := "()V", sig := { parameters := [], returnType := none }, accessFlags := 4, code := some k2c0 }
/-- java/lang/Record -/
def k2 : Class := { plain "java/lang/Record" (some 0) with
  accessFlags := 1057
  interfaces := #[]
  cf := some (fileOf pool2 7 #[] #[{ accessFlags := 4, nameIndex := 5, descriptorIndex := 6, attributes := #[] }] 1057 2 #[] #[])
  fields := #[]
  methods := #[k2m0]
  instanceTypes := #[]
  staticTypes := #[]
  resolved := Array.replicate 22 none
  statics := none }

def pool3 : Array CpInfo := pool [(1, .methodref 2 3), (0, .class_ 4), (0, .nameAndType 5 6), (0, u "java/lang/Record"), (0, u "<init>"), (0, u "()V"), (0, .fieldref 8 9), (0, .class_ 10), (0, .nameAndType 11 12), (0, u "com/example/quintet/quintet/Milenage$Outputs"), (0, u "macA"), (0, u "[B"), (0, .fieldref 8 14), (0, .nameAndType 15 12), (0, u "macS"), (0, .fieldref 8 17), (0, .nameAndType 18 12), (0, u "res"), (0, .fieldref 8 20), (0, .nameAndType 21 12), (0, u "ck"), (0, .fieldref 8 23), (0, .nameAndType 24 12), (0, u "ik"), (0, .fieldref 8 26), (0, .nameAndType 27 12), (0, u "ak"), (0, .fieldref 8 29), (0, .nameAndType 30 12), (0, u "akStar"), (0, .fieldref 8 32), (0, .nameAndType 33 12), (0, u "autn"), (0, .methodref 35 36), (0, .class_ 37), (0, .nameAndType 38 39), (0, u "java/util/Arrays"), (0, u "copyOfRange"), (0, u "([BII)[B"), (0, .methodref 41 42), (0, .class_ 43), (0, .nameAndType 44 45), (0, u "com/example/quintet/quintet/Milenage"), (0, u "xor"), (0, u "([B[B)[B"), (12, u "([B[B[B[B[B[B[B[B)V"), (4, u "()[B"), (0, u "kc")] 32

def k3c0 : Code := { maxStack := 2, maxLocals := 9, code := prog_30_method_1_code, exceptionTable := #[], attributes := #[] }
def k3m0 : Method := { name := "<init>", desc := "([B[B[B[B[B[B[B[B)V", sig := { parameters := [(.array .byte), (.array .byte), (.array .byte), (.array .byte), (.array .byte), (.array .byte), (.array .byte), (.array .byte)], returnType := none }, accessFlags := 1, code := some k3c0 }
def k3c1 : Code := { maxStack := 5, maxLocals := 1, code := prog_30_method_3_code, exceptionTable := #[], attributes := #[] }
def k3m1 : Method := { name := "kc", desc := "()[B", sig := { parameters := [], returnType := some (.array .byte) }, accessFlags := 1, code := some k3c1 }
/-- com/example/quintet/quintet/Milenage$Outputs -/
def k3 : Class := { plain "com/example/quintet/quintet/Milenage$Outputs" (some 2) with
  accessFlags := 49
  interfaces := #[]
  cf := some (fileOf pool3 8 #[.nestHost 41] #[{ accessFlags := 1, nameIndex := 5, descriptorIndex := 58, attributes := #[] }, { accessFlags := 1, nameIndex := 64, descriptorIndex := 63, attributes := #[] }] 49 2 #[] #[{ accessFlags := 18, nameIndex := 11, descriptorIndex := 12, attributes := #[] }, { accessFlags := 18, nameIndex := 15, descriptorIndex := 12, attributes := #[] }, { accessFlags := 18, nameIndex := 18, descriptorIndex := 12, attributes := #[] }, { accessFlags := 18, nameIndex := 21, descriptorIndex := 12, attributes := #[] }, { accessFlags := 18, nameIndex := 24, descriptorIndex := 12, attributes := #[] }, { accessFlags := 18, nameIndex := 27, descriptorIndex := 12, attributes := #[] }, { accessFlags := 18, nameIndex := 30, descriptorIndex := 12, attributes := #[] }, { accessFlags := 18, nameIndex := 33, descriptorIndex := 12, attributes := #[] }])
  fields := #[{ name := "macA", type := (.array .byte), accessFlags := 18, slot := 0, constantValue := 0 }, { name := "macS", type := (.array .byte), accessFlags := 18, slot := 1, constantValue := 0 }, { name := "res", type := (.array .byte), accessFlags := 18, slot := 2, constantValue := 0 }, { name := "ck", type := (.array .byte), accessFlags := 18, slot := 3, constantValue := 0 }, { name := "ik", type := (.array .byte), accessFlags := 18, slot := 4, constantValue := 0 }, { name := "ak", type := (.array .byte), accessFlags := 18, slot := 5, constantValue := 0 }, { name := "akStar", type := (.array .byte), accessFlags := 18, slot := 6, constantValue := 0 }, { name := "autn", type := (.array .byte), accessFlags := 18, slot := 7, constantValue := 0 }]
  methods := #[k3m0, k3m1]
  instanceTypes := #[(.array .byte), (.array .byte), (.array .byte), (.array .byte), (.array .byte), (.array .byte), (.array .byte), (.array .byte)]
  staticTypes := #[]
  resolved := Array.replicate 97 none
  statics := none }

def pool4 : Array CpInfo := pool [(2, .class_ 4), (1, u "java/lang/Object"), (0, u "<init>"), (0, u "()V"), (7, .class_ 16), (1, u "java/util/Arrays"), (57, .class_ 76), (1, u "java/util/Arrays$NaturalOrder"), (36, .class_ 115), (1, u "java/util/Arrays$LegacyMergeSort"), (1, u "Z"), (21, u "copyOfRange"), (10, .methodref 151 152), (0, .class_ 153), (0, .nameAndType 154 155), (0, u "java/lang/System"), (0, u "arraycopy"), (0, u "(Ljava/lang/Object;ILjava/lang/Object;II)V"), (148, .methodref 305 306), (0, .class_ 307), (0, .nameAndType 308 309), (0, u "java/lang/Math"), (0, u "min"), (0, u "(II)I"), (29, .methodref 14 340), (0, .nameAndType 341 342), (0, u "copyOfRangeByte"), (0, u "([BII)[B"), (0, .methodref 14 344), (0, .nameAndType 345 346), (0, u "checkLength"), (0, u "(II)V"), (28, .class_ 376), (0, u "java/util/Arrays$ArrayList"), (68, u "$assertionsDisabled"), (269, u "MIN_ARRAY_SORT_GRAN"), (0, u "I"), (2, u "INSERTIONSORT_THRESHOLD"), (255, .class_ 976), (0, u "java/util/Arrays$ArrayItr")] 52

def k4m0 : Method := { name := "<init>", desc := "()V", sig := { parameters := [], returnType := none }, accessFlags := 2, code := none }
def k4c1 : Code := { maxStack := 4, maxLocals := 2, code := jdk_65_method_131_code, exceptionTable := #[], attributes := #[] }
def k4m1 : Method := { name := "checkLength", desc := "(II)V", sig := { parameters := [.int, .int], returnType := none }, accessFlags := 10, code := some k4c1 }
def k4c2 : Code := { maxStack := 3, maxLocals := 3, code := jdk_65_method_132_code, exceptionTable := #[], attributes := #[] }
def k4m2 : Method := { name := "copyOfRange", desc := "([BII)[B", sig := { parameters := [(.array .byte), .int, .int], returnType := some (.array .byte) }, accessFlags := 9, code := some k4c2 }
def k4c3 : Code := { maxStack := 6, maxLocals := 5, code := jdk_65_method_133_code, exceptionTable := #[], attributes := #[] }
def k4m3 : Method := { name := "copyOfRangeByte", desc := "([BII)[B", sig := { parameters := [(.array .byte), .int, .int], returnType := some (.array .byte) }, accessFlags := 10, code := some k4c3 }
/-- java/util/Arrays -/
def k4 : Class := { plain "java/util/Arrays" (some 0) with
  accessFlags := 49
  interfaces := #[]
  cf := some (fileOf pool4 14 #[.nestMembers #[975, 375, 113, 74]] #[{ accessFlags := 2, nameIndex := 5, descriptorIndex := 6, attributes := #[] }, { accessFlags := 10, nameIndex := 345, descriptorIndex := 346, attributes := #[] }, { accessFlags := 9, nameIndex := 139, descriptorIndex := 342, attributes := #[] }, { accessFlags := 10, nameIndex := 341, descriptorIndex := 342, attributes := #[] }] 49 2 #[] #[{ accessFlags := 26, nameIndex := 715, descriptorIndex := 716, attributes := #[] }, { accessFlags := 26, nameIndex := 719, descriptorIndex := 716, attributes := #[] }, { accessFlags := 4120, nameIndex := 445, descriptorIndex := 117, attributes := #[] }])
  fields := #[{ name := "MIN_ARRAY_SORT_GRAN", type := .int, accessFlags := 26, slot := 0, constantValue := 0 }, { name := "INSERTIONSORT_THRESHOLD", type := .int, accessFlags := 26, slot := 1, constantValue := 0 }, { name := "$assertionsDisabled", type := .boolean, accessFlags := 4120, slot := 2, constantValue := 0 }]
  methods := #[k4m0, k4m1, k4m2, k4m3]
  instanceTypes := #[]
  staticTypes := #[.int, .int, .boolean]
  resolved := Array.replicate 1029 none
  statics := none }

def pool5 : Array CpInfo := pool [(1, .class_ 2), (0, u "java/lang/Math"), (1, .class_ 6), (1, u "java/lang/Object"), (0, u "<init>"), (0, u "()V"), (89, .class_ 100), (1, u "java/lang/Math$RandomNumberGeneratorHolder"), (71, u "negativeZeroFloatBits"), (0, u "J"), (2, u "negativeZeroDoubleBits"), (24, u "min"), (43, u "$assertionsDisabled"), (0, u "Z"), (88, u "(II)I"), (2, u "twoToTheDoubleScaleDown"), (0, u "D"), (4, u "twoToTheDoubleScaleUp"), (9, u "E"), (3, u "PI"), (2, u "TAU"), (2, u "DEGREES_TO_RADIANS"), (0, u "RADIANS_TO_DEGREES")] 94

def k5m0 : Method := { name := "<init>", desc := "()V", sig := { parameters := [], returnType := none }, accessFlags := 2, code := none }
def k5c1 : Code := { maxStack := 2, maxLocals := 2, code := jdk_29_method_69_code, exceptionTable := #[], attributes := #[] }
def k5m1 : Method := { name := "min", desc := "(II)I", sig := { parameters := [.int, .int], returnType := some .int }, accessFlags := 9, code := some k5c1 }
/-- java/lang/Math -/
def k5 : Class := { plain "java/lang/Math" (some 0) with
  accessFlags := 49
  interfaces := #[]
  cf := some (fileOf pool5 1 #[.nestMembers #[98]] #[{ accessFlags := 2, nameIndex := 7, descriptorIndex := 8, attributes := #[] }, { accessFlags := 9, nameIndex := 201, descriptorIndex := 335, attributes := #[] }] 49 4 #[] #[{ accessFlags := 25, nameIndex := 354, descriptorIndex := 339, attributes := #[] }, { accessFlags := 25, nameIndex := 358, descriptorIndex := 339, attributes := #[] }, { accessFlags := 25, nameIndex := 361, descriptorIndex := 339, attributes := #[] }, { accessFlags := 26, nameIndex := 364, descriptorIndex := 339, attributes := #[] }, { accessFlags := 26, nameIndex := 365, descriptorIndex := 339, attributes := #[] }, { accessFlags := 26, nameIndex := 172, descriptorIndex := 173, attributes := #[] }, { accessFlags := 26, nameIndex := 176, descriptorIndex := 173, attributes := #[] }, { accessFlags := 8, nameIndex := 344, descriptorIndex := 339, attributes := #[] }, { accessFlags := 8, nameIndex := 338, descriptorIndex := 339, attributes := #[] }, { accessFlags := 4120, nameIndex := 245, descriptorIndex := 246, attributes := #[] }])
  fields := #[{ name := "E", type := .double, accessFlags := 25, slot := 0, constantValue := 0 }, { name := "PI", type := .double, accessFlags := 25, slot := 1, constantValue := 0 }, { name := "TAU", type := .double, accessFlags := 25, slot := 2, constantValue := 0 }, { name := "DEGREES_TO_RADIANS", type := .double, accessFlags := 26, slot := 3, constantValue := 0 }, { name := "RADIANS_TO_DEGREES", type := .double, accessFlags := 26, slot := 4, constantValue := 0 }, { name := "negativeZeroFloatBits", type := .long, accessFlags := 26, slot := 5, constantValue := 0 }, { name := "negativeZeroDoubleBits", type := .long, accessFlags := 26, slot := 6, constantValue := 0 }, { name := "twoToTheDoubleScaleUp", type := .double, accessFlags := 8, slot := 7, constantValue := 0 }, { name := "twoToTheDoubleScaleDown", type := .double, accessFlags := 8, slot := 8, constantValue := 0 }, { name := "$assertionsDisabled", type := .boolean, accessFlags := 4120, slot := 9, constantValue := 0 }]
  methods := #[k5m0, k5m1]
  instanceTypes := #[]
  staticTypes := #[.double, .double, .double, .double, .double, .long, .long, .double, .double, .boolean]
  resolved := Array.replicate 460 none
  statics := none }

def pool6 : Array CpInfo := pool [(2, .class_ 4), (1, u "java/lang/Object"), (0, u "<init>"), (0, u "()V"), (1, .class_ 10), (1, u "java/lang/System"), (0, u "allowSecurityManager"), (0, u "I"), (16, u "cons"), (0, u "Ljava/io/Console;"), (77, .class_ 110), (1, u "java/lang/System$CallersHolder"), (43, u "initialErrStream"), (0, u "Ljava/io/PrintStream;"), (19, u "security"), (0, u "Ljava/lang/SecurityManager;"), (31, .class_ 209), (0, u "java/lang/System$1"), (7, u "props"), (0, u "Ljava/util/Properties;"), (2, u "lineSeparator"), (0, u "Ljava/lang/String;"), (96, .class_ 321), (1, u "java/lang/System$LoggerFinder"), (5, .class_ 328), (0, u "java/lang/System$Logger"), (67, u "err"), (2, u "out"), (91, u "notSupportedJnuEncoding"), (15, u "in"), (17, u "initialIn"), (0, u "Ljava/io/InputStream;"), (35, u "bootLayer"), (0, u "Ljava/lang/ModuleLayer;"), (99, .class_ 664), (0, u "java/lang/System$2"), (9, u "NEVER"), (2, u "MAYBE"), (49, u "arraycopy"), (0, u "(Ljava/lang/Object;ILjava/lang/Object;II)V"), (72, .class_ 802), (0, u "java/lang/System$Logger$Level")] 31

def k6m0 : Method := { name := "<init>", desc := "()V", sig := { parameters := [], returnType := none }, accessFlags := 2, code := none }
def k6m1 : Method := { name := "arraycopy", desc := "(Ljava/lang/Object;ILjava/lang/Object;II)V", sig := { parameters := [(.object "java/lang/Object"), .int, (.object "java/lang/Object"), .int, .int], returnType := none }, accessFlags := 265, code := none }
/-- java/lang/System -/
def k6 : Class := { plain "java/lang/System" (some 0) with
  accessFlags := 49
  interfaces := #[]
  cf := some (fileOf pool6 8 #[.nestMembers #[319, 327, 801, 108, 663, 208]] #[{ accessFlags := 2, nameIndex := 5, descriptorIndex := 6, attributes := #[] }, { accessFlags := 265, nameIndex := 727, descriptorIndex := 728, attributes := #[] }] 49 2 #[] #[{ accessFlags := 25, nameIndex := 507, descriptorIndex := 526, attributes := #[] }, { accessFlags := 25, nameIndex := 399, descriptorIndex := 155, attributes := #[] }, { accessFlags := 25, nameIndex := 396, descriptorIndex := 155, attributes := #[] }, { accessFlags := 10, nameIndex := 525, descriptorIndex := 526, attributes := #[] }, { accessFlags := 26, nameIndex := 674, descriptorIndex := 12, attributes := #[] }, { accessFlags := 26, nameIndex := 677, descriptorIndex := 12, attributes := #[] }, { accessFlags := 10, nameIndex := 11, descriptorIndex := 12, attributes := #[] }, { accessFlags := 74, nameIndex := 175, descriptorIndex := 176, attributes := #[] }, { accessFlags := 10, nameIndex := 491, descriptorIndex := 222, attributes := #[] }, { accessFlags := 74, nameIndex := 29, descriptorIndex := 30, attributes := #[] }, { accessFlags := 74, nameIndex := 154, descriptorIndex := 155, attributes := #[] }, { accessFlags := 10, nameIndex := 217, descriptorIndex := 218, attributes := #[] }, { accessFlags := 10, nameIndex := 221, descriptorIndex := 222, attributes := #[] }, { accessFlags := 8, nameIndex := 562, descriptorIndex := 563, attributes := #[] }])
  fields := #[{ name := "in", type := (.object "java/io/InputStream"), accessFlags := 25, slot := 0, constantValue := 0 }, { name := "out", type := (.object "java/io/PrintStream"), accessFlags := 25, slot := 1, constantValue := 0 }, { name := "err", type := (.object "java/io/PrintStream"), accessFlags := 25, slot := 2, constantValue := 0 }, { name := "initialIn", type := (.object "java/io/InputStream"), accessFlags := 10, slot := 3, constantValue := 0 }, { name := "NEVER", type := .int, accessFlags := 26, slot := 4, constantValue := 0 }, { name := "MAYBE", type := .int, accessFlags := 26, slot := 5, constantValue := 0 }, { name := "allowSecurityManager", type := .int, accessFlags := 10, slot := 6, constantValue := 0 }, { name := "security", type := (.object "java/lang/SecurityManager"), accessFlags := 74, slot := 7, constantValue := 0 }, { name := "notSupportedJnuEncoding", type := (.object "java/lang/String"), accessFlags := 10, slot := 8, constantValue := 0 }, { name := "cons", type := (.object "java/io/Console"), accessFlags := 74, slot := 9, constantValue := 0 }, { name := "initialErrStream", type := (.object "java/io/PrintStream"), accessFlags := 74, slot := 10, constantValue := 0 }, { name := "props", type := (.object "java/util/Properties"), accessFlags := 10, slot := 11, constantValue := 0 }, { name := "lineSeparator", type := (.object "java/lang/String"), accessFlags := 10, slot := 12, constantValue := 0 }, { name := "bootLayer", type := (.object "java/lang/ModuleLayer"), accessFlags := 8, slot := 13, constantValue := 0 }]
  methods := #[k6m0, k6m1]
  instanceTypes := #[]
  staticTypes := #[(.object "java/io/InputStream"), (.object "java/io/PrintStream"), (.object "java/io/PrintStream"), (.object "java/io/InputStream"), .int, .int, .int, (.object "java/lang/SecurityManager"), (.object "java/lang/String"), (.object "java/io/Console"), (.object "java/io/PrintStream"), (.object "java/util/Properties"), (.object "java/lang/String"), (.object "java/lang/ModuleLayer")]
  resolved := Array.replicate 834 none
  statics := none }

def pool7 : Array CpInfo := pool [(2, .class_ 4), (1, u "java/lang/Object"), (2, .class_ 8), (0, u "com/example/quintet/quintet/Milenage"), (8, u "aes"), (3, u "Ljavax/crypto/Cipher;"), (3, u "[B"), (4, u "opc"), (8, u "xor"), (0, u "([B[B)[B"), (25, .class_ 67), (0, u "com/example/quintet/quintet/Milenage$Outputs"), (61, u "BLOCK_BYTES"), (0, u "I"), (2, u "SQN_BYTES"), (1, u "AMF_BYTES")] 25

def k7c0 : Code := { maxStack := 5, maxLocals := 4, code := prog_29_method_7_code, exceptionTable := #[], attributes := #[] }
def k7m0 : Method := { name := "xor", desc := "([B[B)[B", sig := { parameters := [(.array .byte), (.array .byte)], returnType := some (.array .byte) }, accessFlags := 10, code := some k7c0 }
/-- com/example/quintet/quintet/Milenage -/
def k7 : Class := { plain "com/example/quintet/quintet/Milenage" (some 0) with
  accessFlags := 49
  interfaces := #[]
  cf := some (fileOf pool7 7 #[.nestMembers #[66]] #[{ accessFlags := 10, nameIndex := 39, descriptorIndex := 40, attributes := #[] }] 49 2 #[] #[{ accessFlags := 25, nameIndex := 129, descriptorIndex := 130, attributes := #[] }, { accessFlags := 25, nameIndex := 133, descriptorIndex := 130, attributes := #[] }, { accessFlags := 25, nameIndex := 135, descriptorIndex := 130, attributes := #[] }, { accessFlags := 18, nameIndex := 17, descriptorIndex := 21, attributes := #[] }, { accessFlags := 18, nameIndex := 30, descriptorIndex := 25, attributes := #[] }])
  fields := #[{ name := "BLOCK_BYTES", type := .int, accessFlags := 25, slot := 0, constantValue := 0 }, { name := "SQN_BYTES", type := .int, accessFlags := 25, slot := 1, constantValue := 0 }, { name := "AMF_BYTES", type := .int, accessFlags := 25, slot := 2, constantValue := 0 }, { name := "aes", type := (.object "javax/crypto/Cipher"), accessFlags := 18, slot := 0, constantValue := 0 }, { name := "opc", type := (.array .byte), accessFlags := 18, slot := 1, constantValue := 0 }]
  methods := #[k7m0]
  instanceTypes := #[(.object "javax/crypto/Cipher"), (.array .byte)]
  staticTypes := #[.int, .int, .int]
  resolved := Array.replicate 161 none
  statics := none }

def pool8 : Array CpInfo := pool [(1, u "java/lang/Cloneable"), (0, .class_ 1), (0, u "java/lang/Object"), (0, .class_ 3)] 3

/-- java/lang/Cloneable -/
def k8 : Class := { plain "java/lang/Cloneable" (some 0) with
  accessFlags := 1537
  interfaces := #[]
  cf := some (fileOf pool8 2 #[] #[] 1537 4 #[] #[])
  fields := #[]
  methods := #[]
  instanceTypes := #[]
  staticTypes := #[]
  resolved := Array.replicate 8 none
  statics := none }

def pool9 : Array CpInfo := pool [(1, u "java/io/Serializable"), (0, .class_ 1), (0, u "java/lang/Object"), (0, .class_ 3)] 3

/-- java/io/Serializable -/
def k9 : Class := { plain "java/io/Serializable" (some 0) with
  accessFlags := 1537
  interfaces := #[]
  cf := some (fileOf pool9 2 #[] #[] 1537 4 #[] #[])
  fields := #[]
  methods := #[]
  instanceTypes := #[]
  staticTypes := #[]
  resolved := Array.replicate 8 none
  statics := none }

/-- the primitive byte -/
def k10 : Class := { plain "byte" none with kind := .primitive 'B', accessFlags := 0x411 }
/-- [B -/
def k11 : Class := { plain "[B" (some 0) with kind := .array 10 .byte, interfaces := #[8, 9], accessFlags := 1041 }

/-- the primitive int -/
def k12 : Class := { plain "int" none with kind := .primitive 'I', accessFlags := 0x411 }
/-- [I -/
def k13 : Class := { plain "[I" (some 0) with kind := .array 12 .int, interfaces := #[8, 9], accessFlags := 1041 }

def heap : Heap := #[]
def classes : Array Class := #[k0, k1, k2, k3, k4, k5, k6, k7, k8, k9, k10, k11, k12, k13]
def interned : List (Array UInt16 × Addr) := []
def slotsUsed : Nat := 0
def theMethod : MethodId := ⟨1, 1⟩
def args0 : Array Value := #[.long 1, .long 7, .long 9, .long 2]
def aboutOver (below : List Frame) : State where
  vm := { classes := classes, interned := interned.toArray }
  heap := heap
  slotsUsed := slotsUsed
  threads := #[{ frames := .invoking theMethod args0 :: below }]
def below0 : List Frame := [.native { method := ⟨0, 0⟩, args := #[] }]
def about1 : State := aboutOver below0
def p0 : Program := .bare "" "" ""
def e0 : Env := launch0.env 0 0 0
theorem w_frames : about1.frames = Frame.invoking theMethod args0 :: below0 := rfl
set_option maxRecDepth 65536 in
theorem w_args : argsFit about1.vm theMethod args0 = true := by decide +kernel
set_option maxRecDepth 65536 in
theorem w_heap : heapFits about1 = true := by decide +kernel
set_option maxRecDepth 65536 in
theorem w_runnable : about1.curStatus? = some .runnable := by decide +kernel
set_option maxRecDepth 65536 in
theorem w_alone : about1.alone = true := by decide +kernel
set_option maxRecDepth 65536 in
theorem w_named : about1.methodNamed? x = some theMethod := by decide +kernel
set_option maxRecDepth 65536 in
theorem w_hears : about1.hears theMethod below0 = true := by decide +kernel
set_option maxRecDepth 65536 in
theorem w_ripe : about1.ripe theMethod args0 below0 = true := by decide +kernel
theorem w_running : about1.status = .running := rfl
set_option maxRecDepth 65536 in
theorem w_room : about1.hasRoom e0.platform room_1 = true :=
  launch0.hasRoom_least _ room_1 (by decide +kernel) (by decide +kernel) (by decide +kernel) (by decide +kernel) (by decide +kernel) (by decide +kernel)
theorem allAtoms_all (ts : List Jvm.Cond) (a : Array Jvm.Value) (st : Jvm.State) : (allAtoms ts).before a st = ts.all (fun c => c.before a st) := by
  induction ts with
  | nil => rfl
  | cons c t ih =>
    show (Jvm.Cond.and c (allAtoms t)).before a st = _
    rw [Jvm.Cond.before_and, ih, List.all_cons]
def words1 : List Jvm.Cond := Jvm.Cond.code x code maxLocals ret :: tables_1
/-- a 'code' word, met by the world's own term for the bytes: nothing is compared byte by byte -/
theorem code_word {y : MethodName} {bytes : ByteArray} {mx : Nat} {rt : Option FieldType} {a : Array Value} {s : State} {m : MethodId} {meth : Method} {c : Code} (h1 : s.methodNamed? y = some m) (h2 : s.vm.method? m = some meth) (h3 : meth.code = some c) (h4 : c.code = bytes)
    (h5 : (c.maxLocals == mx && c.exceptionTable.isEmpty && decide (c.maxStack ≤ mostOperands) && decide (meth.sig.returnType = rt) && !meth.locks && decide (parseMethodDescriptor y.desc = some meth.sig)) = true) : (Jvm.Cond.code y bytes mx rt).before a s = true := by
  simp only [Bool.and_eq_true, beq_iff_eq, Bool.not_eq_true', decide_eq_true_eq] at h5
  obtain ⟨⟨⟨⟨⟨g1, g2⟩, g3⟩, g4⟩, g5⟩, g6⟩ := h5
  simp [Cond.before, Cond.holds, Cond.value, h1, h2, h3, h4, g1, g2, g3, g4, g5, g6]
def isCode : Jvm.Cond → Bool
  | .code _ _ _ _ => true
  | _ => false
theorem all_split {L : List Jvm.Cond} {P : Jvm.Cond → Bool} (h1 : L.all (fun c => isCode c || P c) = true) (h2 : ∀ c ∈ L.filter isCode, P c = true) : L.all P = true := by
  refine List.all_eq_true.mpr fun c hc => ?_
  have h := List.all_eq_true.mp h1 c hc
  rcases Bool.eq_false_or_eq_true (isCode c) with hi | hi
  · exact h2 c (List.mem_filter.mpr ⟨hc, hi⟩)
  · simpa [hi] using h
set_option maxRecDepth 65536 in
theorem w_c0 : (Jvm.Cond.code x code maxLocals ret).before args0 about1 = true := code_word (m := ⟨1, 1⟩) (meth := k1m1) (c := k1c1) (by decide +kernel) rfl rfl rfl (by decide +kernel)
set_option maxRecDepth 65536 in
theorem w_c1 : (Jvm.Cond.code ({ cls := "com/example/quintet/quintet/OutputsKcPinLaw", name := "put", desc := "([BIJ)V" } : Jvm.MethodName) method_3_code (4 : Nat) (Option.none : Option Jvm.ClassFile.FieldType)).before args0 about1 = true := code_word (m := ⟨1, 2⟩) (meth := k1m2) (c := k1c2) (by decide +kernel) rfl rfl rfl (by decide +kernel)
set_option maxRecDepth 65536 in
theorem w_c2 : (Jvm.Cond.code ({ cls := "com/example/quintet/quintet/Milenage$Outputs", name := "<init>", desc := "([B[B[B[B[B[B[B[B)V" } : Jvm.MethodName) prog_30_method_1_code (9 : Nat) (Option.none : Option Jvm.ClassFile.FieldType)).before args0 about1 = true := code_word (m := ⟨3, 0⟩) (meth := k3m0) (c := k3c0) (by decide +kernel) rfl rfl rfl (by decide +kernel)
set_option maxRecDepth 65536 in
theorem w_c3 : (Jvm.Cond.code ({ cls := "java/lang/Record", name := "<init>", desc := "()V" } : Jvm.MethodName) jdk_30_method_1_code (1 : Nat) (Option.none : Option Jvm.ClassFile.FieldType)).before args0 about1 = true := code_word (m := ⟨2, 0⟩) (meth := k2m0) (c := k2c0) (by decide +kernel) rfl rfl rfl (by decide +kernel)
set_option maxRecDepth 65536 in
theorem w_c4 : (Jvm.Cond.code ({ cls := "java/lang/Object", name := "<init>", desc := "()V" } : Jvm.MethodName) object_method_1_code (1 : Nat) (Option.none : Option Jvm.ClassFile.FieldType)).before args0 about1 = true := code_word (m := ⟨0, 0⟩) (meth := k0m0) (c := k0c0) (by decide +kernel) rfl rfl rfl (by decide +kernel)
set_option maxRecDepth 65536 in
theorem w_c5 : (Jvm.Cond.code ({ cls := "com/example/quintet/quintet/Milenage$Outputs", name := "kc", desc := "()[B" } : Jvm.MethodName) prog_30_method_3_code (1 : Nat) (Option.some (Jvm.ClassFile.FieldType.array Jvm.ClassFile.FieldType.byte))).before args0 about1 = true := code_word (m := ⟨3, 1⟩) (meth := k3m1) (c := k3c1) (by decide +kernel) rfl rfl rfl (by decide +kernel)
set_option maxRecDepth 65536 in
theorem w_c6 : (Jvm.Cond.code ({ cls := "java/util/Arrays", name := "copyOfRange", desc := "([BII)[B" } : Jvm.MethodName) jdk_65_method_132_code (3 : Nat) (Option.some (Jvm.ClassFile.FieldType.array Jvm.ClassFile.FieldType.byte))).before args0 about1 = true := code_word (m := ⟨4, 2⟩) (meth := k4m2) (c := k4c2) (by decide +kernel) rfl rfl rfl (by decide +kernel)
set_option maxRecDepth 65536 in
theorem w_c7 : (Jvm.Cond.code ({ cls := "java/util/Arrays", name := "copyOfRangeByte", desc := "([BII)[B" } : Jvm.MethodName) jdk_65_method_133_code (5 : Nat) (Option.some (Jvm.ClassFile.FieldType.array Jvm.ClassFile.FieldType.byte))).before args0 about1 = true := code_word (m := ⟨4, 3⟩) (meth := k4m3) (c := k4c3) (by decide +kernel) rfl rfl rfl (by decide +kernel)
set_option maxRecDepth 65536 in
theorem w_c8 : (Jvm.Cond.code ({ cls := "java/util/Arrays", name := "checkLength", desc := "(II)V" } : Jvm.MethodName) jdk_65_method_131_code (2 : Nat) (Option.none : Option Jvm.ClassFile.FieldType)).before args0 about1 = true := code_word (m := ⟨4, 1⟩) (meth := k4m1) (c := k4c1) (by decide +kernel) rfl rfl rfl (by decide +kernel)
set_option maxRecDepth 65536 in
theorem w_c9 : (Jvm.Cond.code ({ cls := "java/lang/Math", name := "min", desc := "(II)I" } : Jvm.MethodName) jdk_29_method_69_code (2 : Nat) (Option.some Jvm.ClassFile.FieldType.int)).before args0 about1 = true := code_word (m := ⟨5, 1⟩) (meth := k5m1) (c := k5c1) (by decide +kernel) rfl rfl rfl (by decide +kernel)
set_option maxRecDepth 65536 in
theorem w_c10 : (Jvm.Cond.code ({ cls := "com/example/quintet/quintet/Milenage", name := "xor", desc := "([B[B)[B" } : Jvm.MethodName) prog_29_method_7_code (4 : Nat) (Option.some (Jvm.ClassFile.FieldType.array Jvm.ClassFile.FieldType.byte))).before args0 about1 = true := code_word (m := ⟨7, 0⟩) (meth := k7m0) (c := k7c0) (by decide +kernel) rfl rfl rfl (by decide +kernel)
set_option maxRecDepth 65536 in
theorem w_c11 : (Jvm.Cond.code ({ cls := "com/example/quintet/quintet/OutputsKcPinLaw", name := "get", desc := "([BI)J" } : Jvm.MethodName) method_4_code (2 : Nat) (Option.some Jvm.ClassFile.FieldType.long)).before args0 about1 = true := code_word (m := ⟨1, 3⟩) (meth := k1m3) (c := k1c3) (by decide +kernel) rfl rfl rfl (by decide +kernel)
def codes1 : List Jvm.Cond := [Jvm.Cond.code x code maxLocals ret, Jvm.Cond.code ({ cls := "com/example/quintet/quintet/OutputsKcPinLaw", name := "put", desc := "([BIJ)V" } : Jvm.MethodName) method_3_code (4 : Nat) (Option.none : Option Jvm.ClassFile.FieldType), Jvm.Cond.code ({ cls := "com/example/quintet/quintet/Milenage$Outputs", name := "<init>", desc := "([B[B[B[B[B[B[B[B)V" } : Jvm.MethodName) prog_30_method_1_code (9 : Nat) (Option.none : Option Jvm.ClassFile.FieldType), Jvm.Cond.code ({ cls := "java/lang/Record", name := "<init>", desc := "()V" } : Jvm.MethodName) jdk_30_method_1_code (1 : Nat) (Option.none : Option Jvm.ClassFile.FieldType), Jvm.Cond.code ({ cls := "java/lang/Object", name := "<init>", desc := "()V" } : Jvm.MethodName) object_method_1_code (1 : Nat) (Option.none : Option Jvm.ClassFile.FieldType), Jvm.Cond.code ({ cls := "com/example/quintet/quintet/Milenage$Outputs", name := "kc", desc := "()[B" } : Jvm.MethodName) prog_30_method_3_code (1 : Nat) (Option.some (Jvm.ClassFile.FieldType.array Jvm.ClassFile.FieldType.byte)), Jvm.Cond.code ({ cls := "java/util/Arrays", name := "copyOfRange", desc := "([BII)[B" } : Jvm.MethodName) jdk_65_method_132_code (3 : Nat) (Option.some (Jvm.ClassFile.FieldType.array Jvm.ClassFile.FieldType.byte)), Jvm.Cond.code ({ cls := "java/util/Arrays", name := "copyOfRangeByte", desc := "([BII)[B" } : Jvm.MethodName) jdk_65_method_133_code (5 : Nat) (Option.some (Jvm.ClassFile.FieldType.array Jvm.ClassFile.FieldType.byte)), Jvm.Cond.code ({ cls := "java/util/Arrays", name := "checkLength", desc := "(II)V" } : Jvm.MethodName) jdk_65_method_131_code (2 : Nat) (Option.none : Option Jvm.ClassFile.FieldType), Jvm.Cond.code ({ cls := "java/lang/Math", name := "min", desc := "(II)I" } : Jvm.MethodName) jdk_29_method_69_code (2 : Nat) (Option.some Jvm.ClassFile.FieldType.int), Jvm.Cond.code ({ cls := "com/example/quintet/quintet/Milenage", name := "xor", desc := "([B[B)[B" } : Jvm.MethodName) prog_29_method_7_code (4 : Nat) (Option.some (Jvm.ClassFile.FieldType.array Jvm.ClassFile.FieldType.byte)), Jvm.Cond.code ({ cls := "com/example/quintet/quintet/OutputsKcPinLaw", name := "get", desc := "([BI)J" } : Jvm.MethodName) method_4_code (2 : Nat) (Option.some Jvm.ClassFile.FieldType.long)]
set_option maxRecDepth 65536 in
theorem codes_eq : words1.filter isCode = codes1 := rfl
theorem w_codes : ∀ c ∈ words1.filter isCode, c.before args0 about1 = true := by
  rw [codes_eq]
  intro c hc
  simp only [codes1, List.mem_cons, List.not_mem_nil, or_false] at hc
  rcases hc with rfl | rfl | rfl | rfl | rfl | rfl | rfl | rfl | rfl | rfl | rfl | rfl
  · exact w_c0
  · exact w_c1
  · exact w_c2
  · exact w_c3
  · exact w_c4
  · exact w_c5
  · exact w_c6
  · exact w_c7
  · exact w_c8
  · exact w_c9
  · exact w_c10
  · exact w_c11
set_option maxRecDepth 65536 in
theorem w_t1 : (words1.take 24).all (fun c => isCode c || c.before args0 about1) = true := by decide +kernel
set_option maxRecDepth 65536 in
theorem w_t2 : ((words1.drop 24).take 24).all (fun c => isCode c || c.before args0 about1) = true := by decide +kernel
set_option maxRecDepth 65536 in
theorem w_t3 : ((words1.drop 24).drop 24).all (fun c => isCode c || c.before args0 about1) = true := by decide +kernel
theorem w_tables : (allAtoms (Jvm.Cond.code x code maxLocals ret :: tables_1)).before args0 about1 = true := by
  rw [allAtoms_all]
  show words1.all (fun c => c.before args0 about1) = true
  refine all_split ?_ w_codes
  rw [← List.take_append_drop 24 words1, List.all_append, w_t1, ← List.take_append_drop 24 (words1.drop 24), List.all_append, w_t2, w_t3]
  rfl
set_option maxRecDepth 65536 in
theorem w_case : (Jvm.Cond.and given_1 narrow_1).before args0 about1 = true := by decide +kernel
theorem w_applies : (headSpec (Jvm.Cond.code x code maxLocals ret :: tables_1) room_1).applies x e0.platform about1 = true :=
  (Spec.applies_iff w_frames).mpr ⟨w_running, w_runnable, w_alone, w_named, w_hears, w_ripe, w_room, w_tables⟩
theorem atStart : AtStart classFile x code maxLocals ret World_1 tables_1 room_1 Calls_1 rest_1 Pre_1 launch0 p0 e0 about1 theMethod args0 below0 :=
  ⟨lists_1, trivial, launch0.admits_env _ _ _, launch0.least_env, fairChoices_fair.cas, fairChoices_fair.clock, w_frames, w_args, w_heap, w_applies, trivial, trivial, w_case⟩
end start1
theorem witness_1 : WitnessClaimed_1 := ⟨start1.p0, start1.e0, start1.about1, start1.theMethod, start1.args0, start1.below0, start1.atStart⟩
end Jvm.Pilot.@@N@@
