import JvmDerived
import JvmDerived.Pilot.@@N@@Statement
import JvmDerived.Pilot.@@N@@Code
set_option linter.unusedVariables false
set_option linter.unusedSimpArgs false
namespace Jvm.Pilot.@@N@@
open Jvm Jvm.ClassFile Sem Op Lib Jvm.Free Jvm.Stand Jvm.LawKit Jvm.RoadKit Bundle Jvm.Pilot.@@N@@.Jvm.D
/-! OWN KIT 1: the fresh part of the heap: a list of (address, what its cell is) -/
abbrev Hp : Type := List (Addr × (Cell → Prop))
def Own (Z : State) (h : Heap) (M : Hp) : Prop := Ext Z.heap h ∧ (∀ (i : Nat) x, M[i]? = some x → Z.heap.size ≤ x.1 ∧ ∃ c : Cell, h[x.1]? = some c ∧ x.2 c) ∧ ∀ (i j : Nat) x y, M[i]? = some x → M[j]? = some y → x.1 = y.1 → i = j
theorem Own.ch {Z : State} {h h' : Heap} {M : Hp} {i : Nat} {a : Addr} {P P' : Cell → Prop} (O : Own Z h M) (hi : M[i]? = some (a, P)) (hs : h.size ≤ h'.size) (hk : ∀ (x : Addr) (c : Cell), h[x]? = some c → x ≠ a → h'[x]? = some c) (hc : ∃ c : Cell, h'[a]? = some c ∧ P' c) : Own Z h' (M.set i (a, P')) := by
  obtain ⟨o1, o2, o3⟩ := O
  have hil : i < M.length := (List.getElem?_eq_some_iff.mp hi).1
  have key : ∀ (j : Nat) x, (M.set i (a, P'))[j]? = some x → (j = i ∧ x = (a, P')) ∨ (j ≠ i ∧ M[j]? = some x) := by
    intro j x hx
    by_cases e : j = i
    · subst e
      rw [List.getElem?_set_self hil] at hx
      exact Or.inl ⟨rfl, (Option.some.inj hx).symm⟩
    · rw [List.getElem?_set_ne (Ne.symm e)] at hx
      exact Or.inr ⟨e, hx⟩
  refine ⟨⟨Nat.le_trans o1.1 hs, fun x c hx => hk x c (o1.2 x c hx) ?_⟩, fun j x hx => ?_, fun j j' x y hx hy e => ?_⟩
  · have h1 := (Array.getElem?_eq_some_iff.mp hx).1
    have h2 := (o2 i _ hi).1
    exact Nat.ne_of_lt (Nat.lt_of_lt_of_le h1 h2)
  · rcases key j x hx with ⟨rfl, rfl⟩ | ⟨ne, hx'⟩
    · exact ⟨(o2 j _ hi).1, hc⟩
    · obtain ⟨q1, c, q2, q3⟩ := o2 j x hx'
      exact ⟨q1, c, hk _ _ q2 (fun e => ne (o3 j i _ _ hx' hi e)), q3⟩
  · rcases key j x hx with ⟨rfl, rfl⟩ | ⟨ne, hx'⟩ <;> rcases key j' y hy with ⟨rfl, rfl⟩ | ⟨ne', hy'⟩
    · rfl
    · exact o3 _ _ _ _ hi hy' e
    · exact o3 _ _ _ _ hx' hi e
    · exact o3 _ _ _ _ hx' hy' e
theorem Own.upd {Z : State} {h h' : Heap} {M : Hp} {i : Nat} {a : Addr} {P P' : Cell → Prop} {sl : Nat} {v : Value} (O : Own Z h M) (hi : M[i]? = some (a, P)) (W : Wr h h' a sl v) (q : ∀ c : Cell, h[a]? = some c → P c → P' (c.setSlot sl v)) : Own Z h' (M.set i (a, P')) := by
  refine O.ch hi (Nat.le_of_eq W.size.symm) (fun x c hx ne => ?_) ?_
  · obtain ⟨c', e1, -, -, -, e5, -⟩ := wr_at W hx
    rw [e1, e5 ne]
  · obtain ⟨-, c, h1, h2⟩ := O.2.1 i _ hi
    obtain ⟨c', e1, -, -, -, -, -, e7⟩ := wr_at W h1
    exact ⟨c', e1, by rw [(e7 rfl).1]; exact q c h1 h2⟩
theorem Own.new {Z : State} {h h' : Heap} {M : Hp} {P : Cell → Prop} {c : Cell} (O : Own Z h M) (E : Ext h h') (hc : h'[h.size]? = some c) (q : P c) : Own Z h' ((h.size, P) :: M) := by
  obtain ⟨o1, o2, o3⟩ := O
  have lt : ∀ (j : Nat) x, M[j]? = some x → x.1 < h.size := fun j x hx => by
    obtain ⟨-, c, h1, -⟩ := o2 j x hx
    exact (Array.getElem?_eq_some_iff.mp h1).1
  refine ⟨⟨Nat.le_trans o1.1 E.1, fun x c hx => E.2 _ _ (o1.2 x c hx)⟩, fun j x hx => ?_, fun j j' x y hx hy e => ?_⟩
  · cases j with
    | zero => cases hx; exact ⟨o1.1, c, hc, q⟩
    | succ j => obtain ⟨q1, c, q2, q3⟩ := o2 j x hx; exact ⟨q1, c, E.2 _ _ q2, q3⟩
  · cases j <;> cases j'
    · rfl
    · cases hx; exact absurd e (Nat.ne_of_gt (lt _ _ hy))
    · cases hy; exact absurd e (Nat.ne_of_lt (lt _ _ hx))
    · exact congrArg _ (o3 _ _ _ _ hx hy e)
theorem Own.perm {Z : State} {h : Heap} {M M' : Hp} (O : Own Z h M) (p : M.Perm M') : Own Z h M' := by
  obtain ⟨o1, o2, o3⟩ := O
  have nd : (M.map Prod.fst).Nodup := by
    rw [List.nodup_iff_pairwise_ne, List.pairwise_iff_getElem]
    intro i j hi hj lt e
    simp only [List.length_map] at hi hj
    simp only [List.getElem_map] at e
    exact absurd (o3 i j _ _ (List.getElem?_eq_getElem hi) (List.getElem?_eq_getElem hj) e) (Nat.ne_of_lt lt)
  have nd' : (M'.map Prod.fst).Nodup := (p.map _).nodup_iff.mp nd
  refine ⟨o1, fun i x hx => ?_, fun i j x y hx hy e => ?_⟩
  · obtain ⟨j, hj⟩ := List.mem_iff_getElem?.mp (p.mem_iff.mpr (List.mem_of_getElem? hx))
    exact o2 j x hj
  · rw [List.nodup_iff_pairwise_ne, List.pairwise_iff_getElem] at nd'
    obtain ⟨hi, rfl⟩ := List.getElem?_eq_some_iff.mp hx
    obtain ⟨hj, rfl⟩ := List.getElem?_eq_some_iff.mp hy
    rcases Nat.lt_trichotomy i j with lt | rfl | lt
    · exact (nd' i j (by simpa using hi) (by simpa using hj) lt (by simpa using e)).elim
    · rfl
    · exact (nd' j i (by simpa using hj) (by simpa using hi) lt (by simpa using e.symm)).elim
theorem Own.ne {Z : State} {h : Heap} {M : Hp} {i j : Nat} {a b : Addr} {P P' : Cell → Prop} (O : Own Z h M) (hi : M[i]? = some (a, P)) (hj : M[j]? = some (b, P')) (ne : i ≠ j) : a ≠ b := fun e => ne (O.2.2 i j _ _ hi hj e)
/-! what a cell is: an object of the class C with these fields; an array of ints (bytes, booleans ..), an array of longs -/
abbrev Fd : Type := String × String × String × Value
def Apart (Z : State) (fs : List Fd) : Prop := ∀ (i j : Nat) f g, fs[i]? = some f → fs[j]? = some g → Jvm.RoadKit.slotOf Z f.1 f.2.1 f.2.2.1 = Jvm.RoadKit.slotOf Z g.1 g.2.1 g.2.2.1 → i = j
def Obj (Z : State) (C : String) (fs : List Fd) (c : Cell) : Prop := (∀ (h : Heap) (a : Addr), h[a]? = some c → Exa Z h a C ∧ ∀ (i : Nat) f, fs[i]? = some f → Fld Z h a f.1 f.2.1 f.2.2.1 f.2.2.2) ∧ Apart Z fs
def ArI (Z : State) (ty : FieldType) (vs : List Int32) (c : Cell) : Prop := Z.isArrayOf c ty ∧ c.vm ≠ .unknown ∧ c.slots = (vs.map Value.int).toArray ∧ vs.length < 2 ^ 31 ∧ ∀ x ∈ vs, fits ty (.int x) = true
def ArL (Z : State) (vs : List Int64) (c : Cell) : Prop := Z.isArrayOf c .long ∧ c.vm ≠ .unknown ∧ c.slots = (vs.map Value.long).toArray ∧ vs.length < 2 ^ 31
theorem exa_at_cell {Z : State} {h h' : Heap} {a a' : Addr} {C : String} {c : Cell} (E : Exa Z h a C) (hc : h[a]? = some c) (hc' : h'[a']? = some c) : Exa Z h' a' C := by
  obtain ⟨c1, k, h1, r⟩ := E
  cases h1.symm.trans hc
  exact ⟨_, k, hc', r⟩
theorem fld_at_cell {Z : State} {h h' : Heap} {a a' : Addr} {C n d : String} {v : Value} {c : Cell} (E : Fld Z h a C n d v) (hc : h[a]? = some c) (hc' : h'[a']? = some c) : Fld Z h' a' C n d v := by
  obtain ⟨c1, cf, k, i, f, h1, r⟩ := E
  cases h1.symm.trans hc
  exact ⟨_, cf, k, i, f, hc', r⟩
theorem Obj.put {Z : State} {C O n d : String} {fs : List Fd} {c : Cell} {j : Nat} {v w : Value} (B : Obj Z C fs c) (hj : fs[j]? = some (O, n, d, w)) {h h' : Heap} {a : Addr} (hc : h[a]? = some c) (W : Wr h h' a (Jvm.RoadKit.slotOf Z O n d) v) : Obj Z C (fs.set j (O, n, d, v)) (c.setSlot (Jvm.RoadKit.slotOf Z O n d) v) := by
  obtain ⟨b1, b2⟩ := B
  have hl : j < fs.length := (List.getElem?_eq_some_iff.mp hj).1
  have key : ∀ (i : Nat) x, (fs.set j (O, n, d, v))[i]? = some x → (i = j ∧ x = (O, n, d, v)) ∨ (i ≠ j ∧ fs[i]? = some x) := by
    intro i x hx
    by_cases e : i = j
    · subst e; rw [List.getElem?_set_self hl] at hx; exact Or.inl ⟨rfl, (Option.some.inj hx).symm⟩
    · rw [List.getElem?_set_ne (Ne.symm e)] at hx; exact Or.inr ⟨e, hx⟩
  have hnew : h'[a]? = some (c.setSlot (Jvm.RoadKit.slotOf Z O n d) v) := by
    obtain ⟨c', e1, -, -, -, -, -, e7⟩ := wr_at W hc
    rw [e1, (e7 rfl).1]
  refine ⟨fun h2 a2 h2c => ⟨exa_at_cell ((b1 h a hc).1.wr W) hnew h2c, fun i f hf => ?_⟩, fun i i' f g hf hg e => ?_⟩
  · rcases key i f hf with ⟨rfl, rfl⟩ | ⟨ne, hf'⟩
    · exact fld_at_cell (((b1 h a hc).2 i _ hj).same W) hnew h2c
    · exact fld_at_cell (((b1 h a hc).2 i _ hf').other W (Or.inr fun e => ne (b2 i j _ _ hf' hj e))) hnew h2c
  · rcases key i f hf with ⟨rfl, rfl⟩ | ⟨ne, hf'⟩ <;> rcases key i' g hg with ⟨rfl, rfl⟩ | ⟨ne', hg'⟩
    · rfl
    · exact b2 _ _ _ _ hj hg' e
    · exact b2 _ _ _ _ hf' hj e
    · exact b2 _ _ _ _ hf' hg' e
theorem ArI.arr {Z : State} {ty : FieldType} {vs : List Int32} {c : Cell} {h : Heap} {a : Addr} (B : ArI Z ty vs c) (hc : h[a]? = some c) : Arr Z h a c ty := ⟨hc, B.1, B.2.1⟩
theorem ArL.arr {Z : State} {vs : List Int64} {c : Cell} {h : Heap} {a : Addr} (B : ArL Z vs c) (hc : h[a]? = some c) : Arr Z h a c .long := ⟨hc, B.1, B.2.1⟩
theorem ArI.size {Z : State} {ty : FieldType} {vs : List Int32} {c : Cell} (B : ArI Z ty vs c) : c.slots.size = vs.length := by rw [B.2.2.1]; simp
theorem ArL.size {Z : State} {vs : List Int64} {c : Cell} (B : ArL Z vs c) : c.slots.size = vs.length := by rw [B.2.2.1]; simp
theorem ArI.put {Z : State} {ty : FieldType} {vs : List Int32} {c : Cell} (B : ArI Z ty vs c) (j : Nat) {x : Int32} (hx : fits ty (.int x) = true) : ArI Z ty (vs.set j x) (c.setSlot j (.int x)) := by
  refine ⟨B.1, B.2.1, ?_, by simpa using B.2.2.2.1, fun y hy => ?_⟩
  · show c.slots.setIfInBounds j (.int x) = _
    rw [B.2.2.1]; apply Array.ext'; simp [List.map_set]
  · rcases List.mem_or_eq_of_mem_set hy with h | rfl
    · exact B.2.2.2.2 y h
    · exact hx
theorem ArL.put {Z : State} {vs : List Int64} {c : Cell} (B : ArL Z vs c) (j : Nat) {x : Int64} : ArL Z (vs.set j x) (c.setSlot j (.long x)) := by
  refine ⟨B.1, B.2.1, ?_, by simpa using B.2.2.2⟩
  show c.slots.setIfInBounds j (.long x) = _
  rw [B.2.2.1]; apply Array.ext'; simp [List.map_set]
/-! OWN KIT 2: where a run stands, and how it ends -/
abbrev Cx : Type := Program × Launch × Env × Room × State × MethodId × Array Value × List Frame × Method × Code × (Option Value → Hp → Prop)
def Wk (Z : State) : Cx → State → Nat → Nat → Hp → Prop
  | (p, l, e, R, s, m, args, below, meth, c, _), T, cn, sn, M => ∃ locs, Stand p l e R s m args below meth c T locs cn sn ∧ Fr Z.heap.size locs ∧ Own Z T.heap M
def Ends (Z : State) : Cx → State → Nat → Array Slot → List Value → Prop
  | (p, l, e, R, s, m, args, below, meth, c, Q), T, pc, Ls, st => ∃ t o, Steps p.tables e below (T.setTop (mkF m pc Ls st)) t ∧ t.status = .running ∧ Ended t below o ∧ ∃ v L, o = .returned v ∧ (Fr Z.heap.size L ∧ ∃ M, Q v M ∧ Own Z t.heap M) ∧ FrameEnd s o t L R.cells R.slots
/-- from this frame, over such a heap, the run ends as Q says -/
def Go (Z : State) (k : Cx) (cn sn : Nat) (M : Hp) (pc : Nat) (Ls : Array Slot) (st : List Value) : Prop := ∀ T, Wk Z k T cn sn M → Ends Z k T pc Ls st
def Tb (Z : State) : Prop := ∃ a0, ∀ d ∈ tables_1, d.before a0 Z = true
def Ok (Z : State) (k : Cx) (R : Room) (Q : Option Value → Hp → Prop) (y : MethodName) (b : ByteArray) (ml : Nat) (rt : Option FieldType) : Prop :=
  match k with
  | (p, l, e, R', s, m, args, below, meth, c, Q') => p.tables.exec = Jvm.exec ∧ Z.Warmed39 s.vm ∧ c.code = b ∧ c.maxLocals = ml ∧ s.vm.findClass y.cls = some m.cls ∧ meth.name = y.name ∧ meth.sig.returnType = rt ∧ meth.locks = false ∧ Tb Z ∧ R' = R ∧ Q' = Q
theorem Ok.tb {Z : State} {k : Cx} {R : Room} {Q : Option Value → Hp → Prop} {y : MethodName} {b : ByteArray} {ml : Nat} {rt : Option FieldType} (H : Ok Z k R Q y b ml rt) : Tb Z := by
  obtain ⟨p, l, e, R', s, m, args, below, meth, c, Q'⟩ := k
  exact H.2.2.2.2.2.2.2.2.1
section Kit
variable {ty : FieldType} {Z : State} {k : Cx} {R : Room} {Q : Option Value → Hp → Prop} {y : MethodName} {b : ByteArray} {ml : Nat} {rt : Option FieldType} {cn sn : Nat} {M : Hp} {pc pc' : Nat} {Ls : Array Slot} {st : List Value}
theorem mem {i : Nat} {d : Jvm.Cond} (h : tables_1[i]? = some d) : d ∈ tables_1 := List.mem_of_getElem? h
theorem Go.more {cn' sn' : Nat} (hc : cn ≤ cn') (hs : sn ≤ sn') (g : Go Z k cn' sn' M pc Ls st) : Go Z k cn sn M pc Ls st := by
  obtain ⟨p, l, e, R, s, m, args, below, meth, c, Q⟩ := k
  intro T w
  obtain ⟨locs, X, F, O⟩ := w
  exact g T ⟨locs, X.more hc hs, F, O⟩
theorem Go.perm {M' : Hp} (p : M.Perm M') (g : Go Z k cn sn M' pc Ls st) : Go Z k cn sn M pc Ls st := by
  obtain ⟨p', l, e, R, s, m, args, below, meth, c, Q⟩ := k
  intro T w
  obtain ⟨locs, X, F, O⟩ := w
  exact g T ⟨locs, X, F, O.perm p⟩
theorem Go.fact {φ : Prop} (f : ∀ h, Own Z h M → φ) (g : φ → Go Z k cn sn M pc Ls st) : Go Z k cn sn M pc Ls st := by
  obtain ⟨p', l, e, R, s, m, args, below, meth, c, Q⟩ := k
  intro T w
  have w' := w
  obtain ⟨locs, X, F, O⟩ := w
  exact g (f _ O) T w'
theorem Go.cast {pc2 : Nat} {Ls2 : Array Slot} {st2 : List Value} {M2 : Hp} (h1 : pc = pc2) (h2 : Ls = Ls2) (h3 : st = st2) (h4 : M = M2) (g : Go Z k cn sn M2 pc2 Ls2 st2) : Go Z k cn sn M pc Ls st := by
  subst h1 h2 h3 h4; exact g
theorem s_iloadn (H : Ok Z k R Q y b ml rt) {i : Fin 4} {z : Int32} (hd : decode b pc = .ok (.iload_n i, 1)) (hl : Ls[i.val]? = some (.val (.int z))) (hp : pc + 1 = pc') (g : Go Z k cn sn M pc' Ls (.int z :: st)) : Go Z k cn sn M pc Ls (st) := by
  obtain ⟨p, l, e, R', s, m, args, below, meth, c, Q'⟩ := k
  obtain ⟨hx, hZ, hby, -⟩ := H
  subst hp
  intro T w
  have w' := w
  obtain ⟨locs, X, F, O⟩ := w
  obtain ⟨t, o, hs, r⟩ := g T w'
  exact ⟨t, o, XS.iloadN X.here hx rfl (hb hby hd) hl hs, r⟩
theorem s_iload (H : Ok Z k R Q y b ml rt) {i : Nat} {z : Int32} (hd : decode b pc = .ok (.iload i, 2)) (hl : Ls[i]? = some (.val (.int z))) (hp : pc + 2 = pc') (g : Go Z k cn sn M pc' Ls (.int z :: st)) : Go Z k cn sn M pc Ls (st) := by
  obtain ⟨p, l, e, R', s, m, args, below, meth, c, Q'⟩ := k
  obtain ⟨hx, hZ, hby, -⟩ := H
  subst hp
  intro T w
  have w' := w
  obtain ⟨locs, X, F, O⟩ := w
  obtain ⟨t, o, hs, r⟩ := g T w'
  exact ⟨t, o, XS.iload X.here hx rfl (hb hby hd) hl hs, r⟩
theorem s_istoren (H : Ok Z k R Q y b ml rt) {i : Fin 4} {x : Int32} {L' : Int32 → Array Slot} (hd : decode b pc = .ok (.istore_n i, 1)) (hl : ∀ z, storeLocals Ls i.val (.int z) = some (L' z)) (hp : pc + 1 = pc') (g : ∀ z, z = x → Go Z k cn sn M pc' (L' z) st) : Go Z k cn sn M pc Ls (.int x :: st) := by
  obtain ⟨p, l, e, R', s, m, args, below, meth, c, Q'⟩ := k
  obtain ⟨hx, hZ, hby, -⟩ := H
  subst hp
  intro T w
  have w' := w
  obtain ⟨locs, X, F, O⟩ := w
  obtain ⟨t, o, hs, r⟩ := g x rfl T w'
  exact ⟨t, o, XS.istoreN X.here hx rfl (hb hby hd) rfl (hl x) hs, r⟩
theorem s_istore (H : Ok Z k R Q y b ml rt) {i : Nat} {x : Int32} {L' : Int32 → Array Slot} (hd : decode b pc = .ok (.istore i, 2)) (hl : ∀ z, storeLocals Ls i (.int z) = some (L' z)) (hp : pc + 2 = pc') (g : ∀ z, z = x → Go Z k cn sn M pc' (L' z) st) : Go Z k cn sn M pc Ls (.int x :: st) := by
  obtain ⟨p, l, e, R', s, m, args, below, meth, c, Q'⟩ := k
  obtain ⟨hx, hZ, hby, -⟩ := H
  subst hp
  intro T w
  have w' := w
  obtain ⟨locs, X, F, O⟩ := w
  obtain ⟨t, o, hs, r⟩ := g x rfl T w'
  exact ⟨t, o, XS.istore X.here hx rfl (hb hby hd) rfl (hl x) hs, r⟩
theorem s_lloadn (H : Ok Z k R Q y b ml rt) {i : Fin 4} {z : Int64} (hd : decode b pc = .ok (.lload_n i, 1)) (hl : Ls[i.val]? = some (.val (.long z))) (hp : pc + 1 = pc') (g : Go Z k cn sn M pc' Ls (.long z :: st)) : Go Z k cn sn M pc Ls (st) := by
  obtain ⟨p, l, e, R', s, m, args, below, meth, c, Q'⟩ := k
  obtain ⟨hx, hZ, hby, -⟩ := H
  subst hp
  intro T w
  have w' := w
  obtain ⟨locs, X, F, O⟩ := w
  obtain ⟨t, o, hs, r⟩ := g T w'
  exact ⟨t, o, XS.lloadN X.here hx rfl (hb hby hd) hl hs, r⟩
theorem s_lload (H : Ok Z k R Q y b ml rt) {i : Nat} {z : Int64} (hd : decode b pc = .ok (.lload i, 2)) (hl : Ls[i]? = some (.val (.long z))) (hp : pc + 2 = pc') (g : Go Z k cn sn M pc' Ls (.long z :: st)) : Go Z k cn sn M pc Ls (st) := by
  obtain ⟨p, l, e, R', s, m, args, below, meth, c, Q'⟩ := k
  obtain ⟨hx, hZ, hby, -⟩ := H
  subst hp
  intro T w
  have w' := w
  obtain ⟨locs, X, F, O⟩ := w
  obtain ⟨t, o, hs, r⟩ := g T w'
  exact ⟨t, o, XS.lload X.here hx rfl (hb hby hd) hl hs, r⟩
theorem s_lstoren (H : Ok Z k R Q y b ml rt) {i : Fin 4} {x : Int64} {L' : Int64 → Array Slot} (hd : decode b pc = .ok (.lstore_n i, 1)) (hl : ∀ z, storeLocals Ls i.val (.long z) = some (L' z)) (hp : pc + 1 = pc') (g : ∀ z, z = x → Go Z k cn sn M pc' (L' z) st) : Go Z k cn sn M pc Ls (.long x :: st) := by
  obtain ⟨p, l, e, R', s, m, args, below, meth, c, Q'⟩ := k
  obtain ⟨hx, hZ, hby, -⟩ := H
  subst hp
  intro T w
  have w' := w
  obtain ⟨locs, X, F, O⟩ := w
  obtain ⟨t, o, hs, r⟩ := g x rfl T w'
  exact ⟨t, o, XS.lstoreN X.here hx rfl (hb hby hd) rfl (hl x) hs, r⟩
theorem s_lstore (H : Ok Z k R Q y b ml rt) {i : Nat} {x : Int64} {L' : Int64 → Array Slot} (hd : decode b pc = .ok (.lstore i, 2)) (hl : ∀ z, storeLocals Ls i (.long z) = some (L' z)) (hp : pc + 2 = pc') (g : ∀ z, z = x → Go Z k cn sn M pc' (L' z) st) : Go Z k cn sn M pc Ls (.long x :: st) := by
  obtain ⟨p, l, e, R', s, m, args, below, meth, c, Q'⟩ := k
  obtain ⟨hx, hZ, hby, -⟩ := H
  subst hp
  intro T w
  have w' := w
  obtain ⟨locs, X, F, O⟩ := w
  obtain ⟨t, o, hs, r⟩ := g x rfl T w'
  exact ⟨t, o, XS.lstore X.here hx rfl (hb hby hd) rfl (hl x) hs, r⟩
theorem s_aloadn (H : Ok Z k R Q y b ml rt) {i : Fin 4} {v : Value} (hd : decode b pc = .ok (.aload_n i, 1)) (hl : Ls[i.val]? = some (.val v)) (hv : v.isRef = true) (hp : pc + 1 = pc') (g : Go Z k cn sn M pc' Ls (v :: st)) : Go Z k cn sn M pc Ls (st) := by
  obtain ⟨p, l, e, R', s, m, args, below, meth, c, Q'⟩ := k
  obtain ⟨hx, hZ, hby, -⟩ := H
  subst hp
  intro T w
  have w' := w
  obtain ⟨locs, X, F, O⟩ := w
  obtain ⟨t, o, hs, r⟩ := g T w'
  exact ⟨t, o, XS.aloadN X.here hx rfl (hb hby hd) hl hv hs, r⟩
theorem s_aload (H : Ok Z k R Q y b ml rt) {i : Nat} {v : Value} (hd : decode b pc = .ok (.aload i, 2)) (hl : Ls[i]? = some (.val v)) (hv : v.isRef = true) (hp : pc + 2 = pc') (g : Go Z k cn sn M pc' Ls (v :: st)) : Go Z k cn sn M pc Ls (st) := by
  obtain ⟨p, l, e, R', s, m, args, below, meth, c, Q'⟩ := k
  obtain ⟨hx, hZ, hby, -⟩ := H
  subst hp
  intro T w
  have w' := w
  obtain ⟨locs, X, F, O⟩ := w
  obtain ⟨t, o, hs, r⟩ := g T w'
  exact ⟨t, o, XS.aload X.here hx rfl (hb hby hd) hl hv hs, r⟩
theorem s_astoren (H : Ok Z k R Q y b ml rt) {i : Fin 4} {v : Value} {L' : Array Slot} (hd : decode b pc = .ok (.astore_n i, 1)) (hv : v.isRef = true) (hl : storeLocals Ls i.val v = some L') (hp : pc + 1 = pc') (g : Go Z k cn sn M pc' L' (st)) : Go Z k cn sn M pc Ls (v :: st) := by
  obtain ⟨p, l, e, R', s, m, args, below, meth, c, Q'⟩ := k
  obtain ⟨hx, hZ, hby, -⟩ := H
  subst hp
  intro T w
  have w' := w
  obtain ⟨locs, X, F, O⟩ := w
  obtain ⟨t, o, hs, r⟩ := g T w'
  exact ⟨t, o, XS.astoreN X.here hx rfl (hb hby hd) rfl hv hl hs, r⟩
theorem s_astore (H : Ok Z k R Q y b ml rt) {i : Nat} {v : Value} {L' : Array Slot} (hd : decode b pc = .ok (.astore i, 2)) (hv : v.isRef = true) (hl : storeLocals Ls i v = some L') (hp : pc + 2 = pc') (g : Go Z k cn sn M pc' L' (st)) : Go Z k cn sn M pc Ls (v :: st) := by
  obtain ⟨p, l, e, R', s, m, args, below, meth, c, Q'⟩ := k
  obtain ⟨hx, hZ, hby, -⟩ := H
  subst hp
  intro T w
  have w' := w
  obtain ⟨locs, X, F, O⟩ := w
  obtain ⟨t, o, hs, r⟩ := g T w'
  exact ⟨t, o, XS.astore X.here hx rfl (hb hby hd) rfl hv hl hs, r⟩
theorem s_iconst (H : Ok Z k R Q y b ml rt) {i : Int} {z : Int32} (hd : decode b pc = .ok (.iconst i, 1)) (hz : z = Int32.ofInt i) (hp : pc + 1 = pc') (g : Go Z k cn sn M pc' Ls (.int z :: st)) : Go Z k cn sn M pc Ls (st) := by
  obtain ⟨p, l, e, R', s, m, args, below, meth, c, Q'⟩ := k
  obtain ⟨hx, hZ, hby, -⟩ := H
  subst hp
  intro T w
  have w' := w
  obtain ⟨locs, X, F, O⟩ := w
  obtain ⟨t, o, hs, r⟩ := g T w'
  exact ⟨t, o, XS.iconst X.here hx rfl (hb hby hd) (hz ▸ hs), r⟩
theorem s_bipush (H : Ok Z k R Q y b ml rt) {i : Int} {z : Int32} (hd : decode b pc = .ok (.bipush i, 2)) (hz : z = (Int8.ofInt i).toInt32) (hp : pc + 2 = pc') (g : Go Z k cn sn M pc' Ls (.int z :: st)) : Go Z k cn sn M pc Ls (st) := by
  obtain ⟨p, l, e, R', s, m, args, below, meth, c, Q'⟩ := k
  obtain ⟨hx, hZ, hby, -⟩ := H
  subst hp
  intro T w
  have w' := w
  obtain ⟨locs, X, F, O⟩ := w
  obtain ⟨t, o, hs, r⟩ := g T w'
  exact ⟨t, o, XS.bipush X.here hx rfl (hb hby hd) (hz ▸ hs), r⟩
theorem s_sipush (H : Ok Z k R Q y b ml rt) {i : Int} {z : Int32} (hd : decode b pc = .ok (.sipush i, 3)) (hz : z = (Int16.ofInt i).toInt32) (hp : pc + 3 = pc') (g : Go Z k cn sn M pc' Ls (.int z :: st)) : Go Z k cn sn M pc Ls (st) := by
  obtain ⟨p, l, e, R', s, m, args, below, meth, c, Q'⟩ := k
  obtain ⟨hx, hZ, hby, -⟩ := H
  subst hp
  intro T w
  have w' := w
  obtain ⟨locs, X, F, O⟩ := w
  obtain ⟨t, o, hs, r⟩ := g T w'
  exact ⟨t, o, XS.sipush X.here hx rfl (hb hby hd) (hz ▸ hs), r⟩
theorem s_lconst (H : Ok Z k R Q y b ml rt) {i : Fin 2} {z : Int64} (hd : decode b pc = .ok (.lconst i, 1)) (hz : z = Int64.ofNat i) (hp : pc + 1 = pc') (g : Go Z k cn sn M pc' Ls (.long z :: st)) : Go Z k cn sn M pc Ls (st) := by
  obtain ⟨p, l, e, R', s, m, args, below, meth, c, Q'⟩ := k
  obtain ⟨hx, hZ, hby, -⟩ := H
  subst hp
  intro T w
  have w' := w
  obtain ⟨locs, X, F, O⟩ := w
  obtain ⟨t, o, hs, r⟩ := g T w'
  exact ⟨t, o, XS.lconst X.here hx rfl (hb hby hd) (hz ▸ hs), r⟩
theorem s_anull (H : Ok Z k R Q y b ml rt) (hd : decode b pc = .ok (.aconst_null, 1)) (hp : pc + 1 = pc') (g : Go Z k cn sn M pc' Ls (.null :: st)) : Go Z k cn sn M pc Ls (st) := by
  obtain ⟨p, l, e, R', s, m, args, below, meth, c, Q'⟩ := k
  obtain ⟨hx, hZ, hby, -⟩ := H
  subst hp
  intro T w
  have w' := w
  obtain ⟨locs, X, F, O⟩ := w
  obtain ⟨t, o, hs, r⟩ := g T w'
  exact ⟨t, o, XS.aconstNull X.here hx rfl (hb hby hd) hs, r⟩
theorem s_iadd (H : Ok Z k R Q y b ml rt) {x u : Int32} (hd : decode b pc = .ok (.iadd, 1)) (hp : pc + 1 = pc') (g : Go Z k cn sn M pc' Ls (.int (x + u) :: st)) : Go Z k cn sn M pc Ls (.int u :: .int x :: st) := by
  obtain ⟨p, l, e, R', s, m, args, below, meth, c, Q'⟩ := k
  obtain ⟨hx, hZ, hby, -⟩ := H
  subst hp
  intro T w
  have w' := w
  obtain ⟨locs, X, F, O⟩ := w
  obtain ⟨t, o, hs, r⟩ := g T w'
  exact ⟨t, o, XS.iadd X.here hx rfl (hb hby hd) rfl hs, r⟩
theorem s_isub (H : Ok Z k R Q y b ml rt) {x u : Int32} (hd : decode b pc = .ok (.isub, 1)) (hp : pc + 1 = pc') (g : Go Z k cn sn M pc' Ls (.int (x - u) :: st)) : Go Z k cn sn M pc Ls (.int u :: .int x :: st) := by
  obtain ⟨p, l, e, R', s, m, args, below, meth, c, Q'⟩ := k
  obtain ⟨hx, hZ, hby, -⟩ := H
  subst hp
  intro T w
  have w' := w
  obtain ⟨locs, X, F, O⟩ := w
  obtain ⟨t, o, hs, r⟩ := g T w'
  exact ⟨t, o, XS.isub X.here hx rfl (hb hby hd) rfl hs, r⟩
theorem s_imul (H : Ok Z k R Q y b ml rt) {x u : Int32} (hd : decode b pc = .ok (.imul, 1)) (hp : pc + 1 = pc') (g : Go Z k cn sn M pc' Ls (.int (x * u) :: st)) : Go Z k cn sn M pc Ls (.int u :: .int x :: st) := by
  obtain ⟨p, l, e, R', s, m, args, below, meth, c, Q'⟩ := k
  obtain ⟨hx, hZ, hby, -⟩ := H
  subst hp
  intro T w
  have w' := w
  obtain ⟨locs, X, F, O⟩ := w
  obtain ⟨t, o, hs, r⟩ := g T w'
  exact ⟨t, o, XS.imul X.here hx rfl (hb hby hd) rfl hs, r⟩
theorem s_iand (H : Ok Z k R Q y b ml rt) {x u : Int32} (hd : decode b pc = .ok (.iand, 1)) (hp : pc + 1 = pc') (g : Go Z k cn sn M pc' Ls (.int (x &&& u) :: st)) : Go Z k cn sn M pc Ls (.int u :: .int x :: st) := by
  obtain ⟨p, l, e, R', s, m, args, below, meth, c, Q'⟩ := k
  obtain ⟨hx, hZ, hby, -⟩ := H
  subst hp
  intro T w
  have w' := w
  obtain ⟨locs, X, F, O⟩ := w
  obtain ⟨t, o, hs, r⟩ := g T w'
  exact ⟨t, o, XS.iand X.here hx rfl (hb hby hd) rfl hs, r⟩
theorem s_ior (H : Ok Z k R Q y b ml rt) {x u : Int32} (hd : decode b pc = .ok (.ior, 1)) (hp : pc + 1 = pc') (g : Go Z k cn sn M pc' Ls (.int (x ||| u) :: st)) : Go Z k cn sn M pc Ls (.int u :: .int x :: st) := by
  obtain ⟨p, l, e, R', s, m, args, below, meth, c, Q'⟩ := k
  obtain ⟨hx, hZ, hby, -⟩ := H
  subst hp
  intro T w
  have w' := w
  obtain ⟨locs, X, F, O⟩ := w
  obtain ⟨t, o, hs, r⟩ := g T w'
  exact ⟨t, o, XS.ior X.here hx rfl (hb hby hd) rfl hs, r⟩
theorem s_ixor (H : Ok Z k R Q y b ml rt) {x u : Int32} (hd : decode b pc = .ok (.ixor, 1)) (hp : pc + 1 = pc') (g : Go Z k cn sn M pc' Ls (.int (x ^^^ u) :: st)) : Go Z k cn sn M pc Ls (.int u :: .int x :: st) := by
  obtain ⟨p, l, e, R', s, m, args, below, meth, c, Q'⟩ := k
  obtain ⟨hx, hZ, hby, -⟩ := H
  subst hp
  intro T w
  have w' := w
  obtain ⟨locs, X, F, O⟩ := w
  obtain ⟨t, o, hs, r⟩ := g T w'
  exact ⟨t, o, XS.ixor X.here hx rfl (hb hby hd) rfl hs, r⟩
theorem s_idiv (H : Ok Z k R Q y b ml rt) {x u : Int32} (hd : decode b pc = .ok (.idiv, 1)) (hu : u ≠ 0) (hp : pc + 1 = pc') (g : Go Z k cn sn M pc' Ls (.int (x / u) :: st)) : Go Z k cn sn M pc Ls (.int u :: .int x :: st) := by
  obtain ⟨p, l, e, R', s, m, args, below, meth, c, Q'⟩ := k
  obtain ⟨hx, hZ, hby, -⟩ := H
  subst hp
  intro T w
  have w' := w
  obtain ⟨locs, X, F, O⟩ := w
  obtain ⟨t, o, hs, r⟩ := g T w'
  exact ⟨t, o, XS.idiv X.here hx rfl (hb hby hd) rfl hu hs, r⟩
theorem s_ineg (H : Ok Z k R Q y b ml rt) {x : Int32} (hd : decode b pc = .ok (.ineg, 1)) (hp : pc + 1 = pc') (g : Go Z k cn sn M pc' Ls (.int (-x) :: st)) : Go Z k cn sn M pc Ls (.int x :: st) := by
  obtain ⟨p, l, e, R', s, m, args, below, meth, c, Q'⟩ := k
  obtain ⟨hx, hZ, hby, -⟩ := H
  subst hp
  intro T w
  have w' := w
  obtain ⟨locs, X, F, O⟩ := w
  obtain ⟨t, o, hs, r⟩ := g T w'
  exact ⟨t, o, XS.ineg X.here hx rfl (hb hby hd) rfl hs, r⟩
theorem s_ladd (H : Ok Z k R Q y b ml rt) {x u : Int64} (hd : decode b pc = .ok (.ladd, 1)) (hp : pc + 1 = pc') (g : Go Z k cn sn M pc' Ls (.long (x + u) :: st)) : Go Z k cn sn M pc Ls (.long u :: .long x :: st) := by
  obtain ⟨p, l, e, R', s, m, args, below, meth, c, Q'⟩ := k
  obtain ⟨hx, hZ, hby, -⟩ := H
  subst hp
  intro T w
  have w' := w
  obtain ⟨locs, X, F, O⟩ := w
  obtain ⟨t, o, hs, r⟩ := g T w'
  exact ⟨t, o, XS.ladd X.here hx rfl (hb hby hd) rfl hs, r⟩
theorem s_lsub (H : Ok Z k R Q y b ml rt) {x u : Int64} (hd : decode b pc = .ok (.lsub, 1)) (hp : pc + 1 = pc') (g : Go Z k cn sn M pc' Ls (.long (x - u) :: st)) : Go Z k cn sn M pc Ls (.long u :: .long x :: st) := by
  obtain ⟨p, l, e, R', s, m, args, below, meth, c, Q'⟩ := k
  obtain ⟨hx, hZ, hby, -⟩ := H
  subst hp
  intro T w
  have w' := w
  obtain ⟨locs, X, F, O⟩ := w
  obtain ⟨t, o, hs, r⟩ := g T w'
  exact ⟨t, o, XS.lsub X.here hx rfl (hb hby hd) rfl hs, r⟩
theorem s_lmul (H : Ok Z k R Q y b ml rt) {x u : Int64} (hd : decode b pc = .ok (.lmul, 1)) (hp : pc + 1 = pc') (g : Go Z k cn sn M pc' Ls (.long (x * u) :: st)) : Go Z k cn sn M pc Ls (.long u :: .long x :: st) := by
  obtain ⟨p, l, e, R', s, m, args, below, meth, c, Q'⟩ := k
  obtain ⟨hx, hZ, hby, -⟩ := H
  subst hp
  intro T w
  have w' := w
  obtain ⟨locs, X, F, O⟩ := w
  obtain ⟨t, o, hs, r⟩ := g T w'
  exact ⟨t, o, XS.lmul X.here hx rfl (hb hby hd) rfl hs, r⟩
theorem s_land (H : Ok Z k R Q y b ml rt) {x u : Int64} (hd : decode b pc = .ok (.land, 1)) (hp : pc + 1 = pc') (g : Go Z k cn sn M pc' Ls (.long (x &&& u) :: st)) : Go Z k cn sn M pc Ls (.long u :: .long x :: st) := by
  obtain ⟨p, l, e, R', s, m, args, below, meth, c, Q'⟩ := k
  obtain ⟨hx, hZ, hby, -⟩ := H
  subst hp
  intro T w
  have w' := w
  obtain ⟨locs, X, F, O⟩ := w
  obtain ⟨t, o, hs, r⟩ := g T w'
  exact ⟨t, o, XS.land X.here hx rfl (hb hby hd) rfl hs, r⟩
theorem s_lor (H : Ok Z k R Q y b ml rt) {x u : Int64} (hd : decode b pc = .ok (.lor, 1)) (hp : pc + 1 = pc') (g : Go Z k cn sn M pc' Ls (.long (x ||| u) :: st)) : Go Z k cn sn M pc Ls (.long u :: .long x :: st) := by
  obtain ⟨p, l, e, R', s, m, args, below, meth, c, Q'⟩ := k
  obtain ⟨hx, hZ, hby, -⟩ := H
  subst hp
  intro T w
  have w' := w
  obtain ⟨locs, X, F, O⟩ := w
  obtain ⟨t, o, hs, r⟩ := g T w'
  exact ⟨t, o, XS.lor X.here hx rfl (hb hby hd) rfl hs, r⟩
theorem s_lxor (H : Ok Z k R Q y b ml rt) {x u : Int64} (hd : decode b pc = .ok (.lxor, 1)) (hp : pc + 1 = pc') (g : Go Z k cn sn M pc' Ls (.long (x ^^^ u) :: st)) : Go Z k cn sn M pc Ls (.long u :: .long x :: st) := by
  obtain ⟨p, l, e, R', s, m, args, below, meth, c, Q'⟩ := k
  obtain ⟨hx, hZ, hby, -⟩ := H
  subst hp
  intro T w
  have w' := w
  obtain ⟨locs, X, F, O⟩ := w
  obtain ⟨t, o, hs, r⟩ := g T w'
  exact ⟨t, o, XS.lxor X.here hx rfl (hb hby hd) rfl hs, r⟩
theorem s_ldiv (H : Ok Z k R Q y b ml rt) {x u : Int64} (hd : decode b pc = .ok (.ldiv, 1)) (hu : u ≠ 0) (hp : pc + 1 = pc') (g : Go Z k cn sn M pc' Ls (.long (x / u) :: st)) : Go Z k cn sn M pc Ls (.long u :: .long x :: st) := by
  obtain ⟨p, l, e, R', s, m, args, below, meth, c, Q'⟩ := k
  obtain ⟨hx, hZ, hby, -⟩ := H
  subst hp
  intro T w
  have w' := w
  obtain ⟨locs, X, F, O⟩ := w
  obtain ⟨t, o, hs, r⟩ := g T w'
  exact ⟨t, o, XS.ldiv X.here hx rfl (hb hby hd) rfl hu hs, r⟩
theorem s_lneg (H : Ok Z k R Q y b ml rt) {x : Int64} (hd : decode b pc = .ok (.lneg, 1)) (hp : pc + 1 = pc') (g : Go Z k cn sn M pc' Ls (.long (-x) :: st)) : Go Z k cn sn M pc Ls (.long x :: st) := by
  obtain ⟨p, l, e, R', s, m, args, below, meth, c, Q'⟩ := k
  obtain ⟨hx, hZ, hby, -⟩ := H
  subst hp
  intro T w
  have w' := w
  obtain ⟨locs, X, F, O⟩ := w
  obtain ⟨t, o, hs, r⟩ := g T w'
  exact ⟨t, o, XS.lneg X.here hx rfl (hb hby hd) rfl hs, r⟩
theorem s_irem (H : Ok Z k R Q y b ml rt) {x u : Int32} (hd : decode b pc = .ok (.irem, 1)) (hu : u ≠ 0) (hp : pc + 1 = pc') (g : Go Z k cn sn M pc' Ls (.int (x % u) :: st)) : Go Z k cn sn M pc Ls (.int u :: .int x :: st) := by
  obtain ⟨p, l, e, R', s, m, args, below, meth, c, Q'⟩ := k
  obtain ⟨hx, hZ, hby, -⟩ := H
  subst hp
  intro T w
  have w' := w
  obtain ⟨locs, X, F, O⟩ := w
  obtain ⟨t, o, hs, r⟩ := g T w'
  exact ⟨t, o, iremM X hx rfl (hb hby hd) rfl hu hs, r⟩
theorem s_lrem (H : Ok Z k R Q y b ml rt) {x u : Int64} (hd : decode b pc = .ok (.lrem, 1)) (hu : u ≠ 0) (hp : pc + 1 = pc') (g : Go Z k cn sn M pc' Ls (.long (x % u) :: st)) : Go Z k cn sn M pc Ls (.long u :: .long x :: st) := by
  obtain ⟨p, l, e, R', s, m, args, below, meth, c, Q'⟩ := k
  obtain ⟨hx, hZ, hby, -⟩ := H
  subst hp
  intro T w
  have w' := w
  obtain ⟨locs, X, F, O⟩ := w
  obtain ⟨t, o, hs, r⟩ := g T w'
  exact ⟨t, o, XS.lrem X.here hx rfl (hb hby hd) rfl hu (lrem_mod x u ▸ hs), r⟩
theorem s_ishl (H : Ok Z k R Q y b ml rt) {x u : Int32} (hd : decode b pc = .ok (.ishl, 1)) (hp : pc + 1 = pc') (g : Go Z k cn sn M pc' Ls (.int (x <<< (u &&& 31)) :: st)) : Go Z k cn sn M pc Ls (.int u :: .int x :: st) := by
  obtain ⟨p, l, e, R', s, m, args, below, meth, c, Q'⟩ := k
  obtain ⟨hx, hZ, hby, -⟩ := H
  subst hp
  intro T w
  have w' := w
  obtain ⟨locs, X, F, O⟩ := w
  obtain ⟨t, o, hs, r⟩ := g T w'
  exact ⟨t, o, XS.ishl X.here hx rfl (hb hby hd) rfl hs, r⟩
theorem s_ishr (H : Ok Z k R Q y b ml rt) {x u : Int32} (hd : decode b pc = .ok (.ishr, 1)) (hp : pc + 1 = pc') (g : Go Z k cn sn M pc' Ls (.int (x >>> (u &&& 31)) :: st)) : Go Z k cn sn M pc Ls (.int u :: .int x :: st) := by
  obtain ⟨p, l, e, R', s, m, args, below, meth, c, Q'⟩ := k
  obtain ⟨hx, hZ, hby, -⟩ := H
  subst hp
  intro T w
  have w' := w
  obtain ⟨locs, X, F, O⟩ := w
  obtain ⟨t, o, hs, r⟩ := g T w'
  exact ⟨t, o, XS.ishr X.here hx rfl (hb hby hd) rfl hs, r⟩
theorem s_iushr (H : Ok Z k R Q y b ml rt) {x u : Int32} (hd : decode b pc = .ok (.iushr, 1)) (hp : pc + 1 = pc') (g : Go Z k cn sn M pc' Ls (.int ((x.toUInt32 >>> (u &&& 31).toUInt32).toInt32) :: st)) : Go Z k cn sn M pc Ls (.int u :: .int x :: st) := by
  obtain ⟨p, l, e, R', s, m, args, below, meth, c, Q'⟩ := k
  obtain ⟨hx, hZ, hby, -⟩ := H
  subst hp
  intro T w
  have w' := w
  obtain ⟨locs, X, F, O⟩ := w
  obtain ⟨t, o, hs, r⟩ := g T w'
  exact ⟨t, o, XS.iushr X.here hx rfl (hb hby hd) rfl hs, r⟩
theorem s_lshl (H : Ok Z k R Q y b ml rt) {x : Int64} {u : Int32} (hd : decode b pc = .ok (.lshl, 1)) (hp : pc + 1 = pc') (g : Go Z k cn sn M pc' Ls (.long (x <<< (u &&& 0x3f).toInt64) :: st)) : Go Z k cn sn M pc Ls (.int u :: .long x :: st) := by
  obtain ⟨p, l, e, R', s, m, args, below, meth, c, Q'⟩ := k
  obtain ⟨hx, hZ, hby, -⟩ := H
  subst hp
  intro T w
  have w' := w
  obtain ⟨locs, X, F, O⟩ := w
  obtain ⟨t, o, hs, r⟩ := g T w'
  exact ⟨t, o, XS.lshl X.here hx rfl (hb hby hd) rfl hs, r⟩
theorem s_lshr (H : Ok Z k R Q y b ml rt) {x : Int64} {u : Int32} (hd : decode b pc = .ok (.lshr, 1)) (hp : pc + 1 = pc') (g : Go Z k cn sn M pc' Ls (.long (x >>> (u &&& 0x3f).toInt64) :: st)) : Go Z k cn sn M pc Ls (.int u :: .long x :: st) := by
  obtain ⟨p, l, e, R', s, m, args, below, meth, c, Q'⟩ := k
  obtain ⟨hx, hZ, hby, -⟩ := H
  subst hp
  intro T w
  have w' := w
  obtain ⟨locs, X, F, O⟩ := w
  obtain ⟨t, o, hs, r⟩ := g T w'
  exact ⟨t, o, XS.lshr X.here hx rfl (hb hby hd) rfl hs, r⟩
theorem s_lushr (H : Ok Z k R Q y b ml rt) {x : Int64} {u : Int32} (hd : decode b pc = .ok (.lushr, 1)) (hp : pc + 1 = pc') (g : Go Z k cn sn M pc' Ls (.long ((x.toUInt64 >>> (u &&& 0x3f).toInt64.toUInt64).toInt64) :: st)) : Go Z k cn sn M pc Ls (.int u :: .long x :: st) := by
  obtain ⟨p, l, e, R', s, m, args, below, meth, c, Q'⟩ := k
  obtain ⟨hx, hZ, hby, -⟩ := H
  subst hp
  intro T w
  have w' := w
  obtain ⟨locs, X, F, O⟩ := w
  obtain ⟨t, o, hs, r⟩ := g T w'
  exact ⟨t, o, XS.lushr X.here hx rfl (hb hby hd) rfl hs, r⟩
theorem s_i2l (H : Ok Z k R Q y b ml rt) {x : Int32} (hd : decode b pc = .ok (.i2l, 1)) (hp : pc + 1 = pc') (g : Go Z k cn sn M pc' Ls (.long (x.toInt64) :: st)) : Go Z k cn sn M pc Ls (.int x :: st) := by
  obtain ⟨p, l, e, R', s, m, args, below, meth, c, Q'⟩ := k
  obtain ⟨hx, hZ, hby, -⟩ := H
  subst hp
  intro T w
  have w' := w
  obtain ⟨locs, X, F, O⟩ := w
  obtain ⟨t, o, hs, r⟩ := g T w'
  exact ⟨t, o, XS.i2l X.here hx rfl (hb hby hd) rfl hs, r⟩
theorem s_l2i (H : Ok Z k R Q y b ml rt) {x : Int64} (hd : decode b pc = .ok (.l2i, 1)) (hp : pc + 1 = pc') (g : Go Z k cn sn M pc' Ls (.int (x.toInt32) :: st)) : Go Z k cn sn M pc Ls (.long x :: st) := by
  obtain ⟨p, l, e, R', s, m, args, below, meth, c, Q'⟩ := k
  obtain ⟨hx, hZ, hby, -⟩ := H
  subst hp
  intro T w
  have w' := w
  obtain ⟨locs, X, F, O⟩ := w
  obtain ⟨t, o, hs, r⟩ := g T w'
  exact ⟨t, o, XS.l2i X.here hx rfl (hb hby hd) rfl hs, r⟩
theorem s_i2b (H : Ok Z k R Q y b ml rt) {x : Int32} (hd : decode b pc = .ok (.i2b, 1)) (hp : pc + 1 = pc') (g : Go Z k cn sn M pc' Ls (.int (x.toInt8.toInt32) :: st)) : Go Z k cn sn M pc Ls (.int x :: st) := by
  obtain ⟨p, l, e, R', s, m, args, below, meth, c, Q'⟩ := k
  obtain ⟨hx, hZ, hby, -⟩ := H
  subst hp
  intro T w
  have w' := w
  obtain ⟨locs, X, F, O⟩ := w
  obtain ⟨t, o, hs, r⟩ := g T w'
  exact ⟨t, o, XS.i2b X.here hx rfl (hb hby hd) rfl hs, r⟩
theorem s_i2c (H : Ok Z k R Q y b ml rt) {x : Int32} (hd : decode b pc = .ok (.i2c, 1)) (hp : pc + 1 = pc') (g : Go Z k cn sn M pc' Ls (.int (x.toUInt32.toUInt16.toUInt32.toInt32) :: st)) : Go Z k cn sn M pc Ls (.int x :: st) := by
  obtain ⟨p, l, e, R', s, m, args, below, meth, c, Q'⟩ := k
  obtain ⟨hx, hZ, hby, -⟩ := H
  subst hp
  intro T w
  have w' := w
  obtain ⟨locs, X, F, O⟩ := w
  obtain ⟨t, o, hs, r⟩ := g T w'
  exact ⟨t, o, XS.i2c X.here hx rfl (hb hby hd) rfl hs, r⟩
theorem s_i2s (H : Ok Z k R Q y b ml rt) {x : Int32} (hd : decode b pc = .ok (.i2s, 1)) (hp : pc + 1 = pc') (g : Go Z k cn sn M pc' Ls (.int (x.toInt16.toInt32) :: st)) : Go Z k cn sn M pc Ls (.int x :: st) := by
  obtain ⟨p, l, e, R', s, m, args, below, meth, c, Q'⟩ := k
  obtain ⟨hx, hZ, hby, -⟩ := H
  subst hp
  intro T w
  have w' := w
  obtain ⟨locs, X, F, O⟩ := w
  obtain ⟨t, o, hs, r⟩ := g T w'
  exact ⟨t, o, XS.i2s X.here hx rfl (hb hby hd) rfl hs, r⟩
theorem s_lcmp (H : Ok Z k R Q y b ml rt) {x u : Int64} (hd : decode b pc = .ok (.lcmp, 1)) (hp : pc + 1 = pc') (g : Go Z k cn sn M pc' Ls (.int (lcmpW x u) :: st)) : Go Z k cn sn M pc Ls (.long u :: .long x :: st) := by
  obtain ⟨p, l, e, R', s, m, args, below, meth, c, Q'⟩ := k
  obtain ⟨hx, hZ, hby, -⟩ := H
  subst hp
  intro T w
  have w' := w
  obtain ⟨locs, X, F, O⟩ := w
  obtain ⟨t, o, hs, r⟩ := g T w'
  exact ⟨t, o, XS.lcmp X.here hx rfl (hb hby hd) rfl hs, r⟩
theorem s_dup (H : Ok Z k R Q y b ml rt) {v : Value} (hd : decode b pc = .ok (.dup, 1)) (hc : v.category = 1) (hp : pc + 1 = pc') (g : Go Z k cn sn M pc' Ls (v :: v :: st)) : Go Z k cn sn M pc Ls (v :: st) := by
  obtain ⟨p, l, e, R', s, m, args, below, meth, c, Q'⟩ := k
  obtain ⟨hx, hZ, hby, -⟩ := H
  subst hp
  intro T w
  have w' := w
  obtain ⟨locs, X, F, O⟩ := w
  obtain ⟨t, o, hs, r⟩ := g T w'
  exact ⟨t, o, XS.dup X.here hx rfl (hb hby hd) rfl hc hs, r⟩
theorem s_dupx1 (H : Ok Z k R Q y b ml rt) {v v' : Value} (hd : decode b pc = .ok (.dup_x1, 1)) (hc : v.category = 1) (hc' : v'.category = 1) (hp : pc + 1 = pc') (g : Go Z k cn sn M pc' Ls (v :: v' :: v :: st)) : Go Z k cn sn M pc Ls (v :: v' :: st) := by
  obtain ⟨p, l, e, R', s, m, args, below, meth, c, Q'⟩ := k
  obtain ⟨hx, hZ, hby, -⟩ := H
  subst hp
  intro T w
  have w' := w
  obtain ⟨locs, X, F, O⟩ := w
  obtain ⟨t, o, hs, r⟩ := g T w'
  exact ⟨t, o, XS.dupX1 X.here hx rfl (hb hby hd) rfl hc hc' hs, r⟩
theorem s_dup2 (H : Ok Z k R Q y b ml rt) {v v' : Value} (hd : decode b pc = .ok (.dup2, 1)) (hc : v.category = 1) (hc' : v'.category = 1) (hp : pc + 1 = pc') (g : Go Z k cn sn M pc' Ls (v :: v' :: v :: v' :: st)) : Go Z k cn sn M pc Ls (v :: v' :: st) := by
  obtain ⟨p, l, e, R', s, m, args, below, meth, c, Q'⟩ := k
  obtain ⟨hx, hZ, hby, -⟩ := H
  subst hp
  intro T w
  have w' := w
  obtain ⟨locs, X, F, O⟩ := w
  obtain ⟨t, o, hs, r⟩ := g T w'
  exact ⟨t, o, XT.dup2 X.here hx rfl (hb hby hd) rfl hc hc' hs, r⟩
theorem s_dup2l (H : Ok Z k R Q y b ml rt) {x : Int64} (hd : decode b pc = .ok (.dup2, 1)) (hp : pc + 1 = pc') (g : Go Z k cn sn M pc' Ls (.long x :: .long x :: st)) : Go Z k cn sn M pc Ls (.long x :: st) := by
  obtain ⟨p, l, e, R', s, m, args, below, meth, c, Q'⟩ := k
  obtain ⟨hx, hZ, hby, -⟩ := H
  subst hp
  intro T w
  have w' := w
  obtain ⟨locs, X, F, O⟩ := w
  obtain ⟨t, o, hs, r⟩ := g T w'
  exact ⟨t, o, XT.dup2L X.here hx rfl (hb hby hd) rfl hs, r⟩
theorem s_pop (H : Ok Z k R Q y b ml rt) {v : Value} (hd : decode b pc = .ok (.pop, 1)) (hc : v.category = 1) (hp : pc + 1 = pc') (g : Go Z k cn sn M pc' Ls (st)) : Go Z k cn sn M pc Ls (v :: st) := by
  obtain ⟨p, l, e, R', s, m, args, below, meth, c, Q'⟩ := k
  obtain ⟨hx, hZ, hby, -⟩ := H
  subst hp
  intro T w
  have w' := w
  obtain ⟨locs, X, F, O⟩ := w
  obtain ⟨t, o, hs, r⟩ := g T w'
  exact ⟨t, o, XS.pop X.here hx rfl (hb hby hd) rfl hc hs, r⟩
theorem s_iinc (H : Ok Z k R Q y b ml rt) {i : Nat} {cst : Int} {x u : Int32} {L' : Int32 → Array Slot} (hd : decode b pc = .ok (.iinc i cst, 3)) (hl0 : Ls[i]? = some (.val (.int x))) (hu : u = Int32.ofInt cst) (hl : ∀ z, storeLocals Ls i (.int z) = some (L' z)) (hp : pc + 3 = pc') (g : ∀ z, z = x + u → Go Z k cn sn M pc' (L' z) st) : Go Z k cn sn M pc Ls st := by
  obtain ⟨p, l, e, R', s, m, args, below, meth, c, Q'⟩ := k
  obtain ⟨hx, hZ, hby, -⟩ := H
  subst hp hu
  intro T w
  have w' := w
  obtain ⟨locs, X, F, O⟩ := w
  obtain ⟨t, o, hs, r⟩ := g _ rfl T w'
  exact ⟨t, o, XS.iinc X.here hx rfl (hb hby hd) hl0 (hl _) hs, r⟩
theorem s_goto (H : Ok Z k R Q y b ml rt) {o : Int} (hd : decode b pc = .ok (.goto o, 3)) (ho : (pc : Int) + o = pc') (g : Go Z k cn sn M pc' Ls st) : Go Z k cn sn M pc Ls st := by
  obtain ⟨p, l, e, R', s, m, args, below, meth, c, Q'⟩ := k
  obtain ⟨hx, hZ, hby, -⟩ := H
  intro T w
  have w' := w
  obtain ⟨locs, X, F, O⟩ := w
  obtain ⟨t, o, hs, r⟩ := g T w'
  exact ⟨t, o, XS.goto X.here hx rfl (pc0 := pc) rfl (hb hby hd) (by omega) (by omega) hs, r⟩
theorem s_if (H : Ok Z k R Q y b ml rt) {cd : ClassFile.Cond} {o : Int} {x : Int32} {py : Nat} {φ : Prop} (hd : decode b pc = .ok (.ifCond cd o, 3)) (hq : ifCond.holds cd x = true ↔ φ) (ho : (pc : Int) + o = py) (hp : pc + 3 = pc') (gy : φ → Go Z k cn sn M py Ls st) (gn : ¬ φ → Go Z k cn sn M pc' Ls st) : Go Z k cn sn M pc Ls (.int x :: st) := by
  obtain ⟨p, l, e, R', s, m, args, below, meth, c, Q'⟩ := k
  obtain ⟨hx, hZ, hby, -⟩ := H
  subst hp
  intro T w
  have w' := w
  obtain ⟨locs, X, F, O⟩ := w
  cases hh : ifCond.holds cd x with
  | true =>
    obtain ⟨t, o, hs, r⟩ := gy (hq.mp hh) T w'
    exact ⟨t, o, XS.ifYes X.here hx rfl (pc0 := pc) rfl (hb hby hd) rfl hh (by omega) (by omega) hs, r⟩
  | false =>
    obtain ⟨t, o, hs, r⟩ := gn (fun q => by rw [hq.mpr q] at hh; cases hh) T w'
    exact ⟨t, o, XS.ifNo X.here hx rfl (hb hby hd) rfl hh hs, r⟩
theorem s_icmp (H : Ok Z k R Q y b ml rt) {cd : ClassFile.Cond} {o : Int} {x u : Int32} {py : Nat} {φ : Prop} (hd : decode b pc = .ok (.if_icmp cd o, 3)) (hq : if_icmp.holds cd x u = true ↔ φ) (ho : (pc : Int) + o = py) (hp : pc + 3 = pc') (gy : φ → Go Z k cn sn M py Ls st) (gn : ¬ φ → Go Z k cn sn M pc' Ls st) : Go Z k cn sn M pc Ls (.int u :: .int x :: st) := by
  obtain ⟨p, l, e, R', s, m, args, below, meth, c, Q'⟩ := k
  obtain ⟨hx, hZ, hby, -⟩ := H
  subst hp
  intro T w
  have w' := w
  obtain ⟨locs, X, F, O⟩ := w
  cases hh : if_icmp.holds cd x u with
  | true =>
    obtain ⟨t, o, hs, r⟩ := gy (hq.mp hh) T w'
    exact ⟨t, o, XS.icmpYes X.here hx rfl (pc0 := pc) rfl (hb hby hd) rfl hh (by omega) (by omega) hs, r⟩
  | false =>
    obtain ⟨t, o, hs, r⟩ := gn (fun q => by rw [hq.mpr q] at hh; cases hh) T w'
    exact ⟨t, o, XS.icmpNo X.here hx rfl (hb hby hd) rfl hh hs, r⟩
theorem q_eq {x u : Int32} : if_icmp.holds .eq x u = true ↔ x = u := by simp [if_icmp.holds]
theorem z_eq {x : Int32} : ifCond.holds .eq x = true ↔ x = 0 := by rw [if0]; exact q_eq
theorem q_ne {x u : Int32} : if_icmp.holds .ne x u = true ↔ ¬ x = u := by simp [if_icmp.holds]
theorem z_ne {x : Int32} : ifCond.holds .ne x = true ↔ ¬ x = 0 := by rw [if0]; exact q_ne
theorem q_lt {x u : Int32} : if_icmp.holds .lt x u = true ↔ x < u := by simp [if_icmp.holds]
theorem z_lt {x : Int32} : ifCond.holds .lt x = true ↔ x < 0 := by rw [if0]; exact q_lt
theorem q_ge {x u : Int32} : if_icmp.holds .ge x u = true ↔ u ≤ x := by simp [if_icmp.holds]
theorem z_ge {x : Int32} : ifCond.holds .ge x = true ↔ 0 ≤ x := by rw [if0]; exact q_ge
theorem q_gt {x u : Int32} : if_icmp.holds .gt x u = true ↔ u < x := by simp [if_icmp.holds]
theorem z_gt {x : Int32} : ifCond.holds .gt x = true ↔ 0 < x := by rw [if0]; exact q_gt
theorem q_le {x u : Int32} : if_icmp.holds .le x u = true ↔ x ≤ u := by simp [if_icmp.holds]
theorem z_le {x : Int32} : ifCond.holds .le x = true ↔ x ≤ 0 := by rw [if0]; exact q_le
theorem l_eq {x u : Int64} : ifCond.holds .eq (lcmpW x u) = true ↔ x = u := z_eq.trans (lw_eq x u)
theorem l_ne {x u : Int64} : ifCond.holds .ne (lcmpW x u) = true ↔ ¬ x = u := z_ne.trans (not_congr (lw_eq x u))
theorem l_lt {x u : Int64} : ifCond.holds .lt (lcmpW x u) = true ↔ x < u := z_lt.trans (lw_lt x u)
theorem l_gt {x u : Int64} : ifCond.holds .gt (lcmpW x u) = true ↔ u < x := z_gt.trans (lw_gt x u)
theorem l_ge {x u : Int64} : ifCond.holds .ge (lcmpW x u) = true ↔ u ≤ x := z_ge.trans (by rw [lcW]; exact lc_ge x u)
theorem l_le {x u : Int64} : ifCond.holds .le (lcmpW x u) = true ↔ x ≤ u := z_le.trans (by rw [lcW]; exact lc_le x u)
theorem s_ifnull (H : Ok Z k R Q y b ml rt) {o : Int} {a : Addr} (hd : decode b pc = .ok (.ifnull o, 3)) (hp : pc + 3 = pc') (g : Go Z k cn sn M pc' Ls st) : Go Z k cn sn M pc Ls (.ref a :: st) := by
  obtain ⟨p, l, e, R', s, m, args, below, meth, c, Q'⟩ := k
  obtain ⟨hx, hZ, hby, -⟩ := H
  subst hp
  intro T w
  have w' := w
  obtain ⟨locs, X, F, O⟩ := w
  obtain ⟨t, o, hs, r⟩ := g T w'
  exact ⟨t, o, XS.ifnullNo X.here hx rfl (hb hby hd) rfl hs, r⟩
theorem s_acmpne (H : Ok Z k R Q y b ml rt) {o : Int} {a a' : Addr} {py : Nat} (hd : decode b pc = .ok (.if_acmp .ne o, 3)) (hne : a ≠ a') (ho : (pc : Int) + o = py) (g : Go Z k cn sn M py Ls st) : Go Z k cn sn M pc Ls (.ref a' :: .ref a :: st) := by
  obtain ⟨p, l, e, R', s, m, args, below, meth, c, Q'⟩ := k
  obtain ⟨hx, hZ, hby, -⟩ := H
  intro T w
  have w' := w
  obtain ⟨locs, X, F, O⟩ := w
  obtain ⟨t, o, hs, r⟩ := g T w'
  exact ⟨t, o, XS.acmpYes X.here hx rfl (pc0 := pc) rfl (hb hby hd) rfl (by simp [if_acmp.holds, hne]) (by omega) (by omega) hs, r⟩
theorem s_acmpeq (H : Ok Z k R Q y b ml rt) {o : Int} {a a' : Addr} (hd : decode b pc = .ok (.if_acmp .eq o, 3)) (hne : a ≠ a') (hp : pc + 3 = pc') (g : Go Z k cn sn M pc' Ls st) : Go Z k cn sn M pc Ls (.ref a' :: .ref a :: st) := by
  obtain ⟨p, l, e, R', s, m, args, below, meth, c, Q'⟩ := k
  obtain ⟨hx, hZ, hby, -⟩ := H
  subst hp
  intro T w
  have w' := w
  obtain ⟨locs, X, F, O⟩ := w
  obtain ⟨t, o, hs, r⟩ := g T w'
  exact ⟨t, o, XS.acmpNo X.here hx rfl (hb hby hd) rfl (by simp [if_acmp.holds, hne]) hs, r⟩
theorem s_ldc2 (H : Ok Z k R Q y b ml rt) {i : Nat} {z : Int64} (hd : decode b pc = .ok (.ldc2_w i, 3)) (w1 : Jvm.Cond.constantLong y.cls i z ∈ tables_1) (hp : pc + 3 = pc') (g : Go Z k cn sn M pc' Ls (.long z :: st)) : Go Z k cn sn M pc Ls st := by
  obtain ⟨p, l, e, R', s, m, args, below, meth, c, Q'⟩ := k
  obtain ⟨hx, hZ, hby, -, hown, -, -, -, ⟨a0, hw⟩, -⟩ := H
  subst hp
  intro T w
  have w' := w
  obtain ⟨locs, X, F, O⟩ := w
  obtain ⟨t, o, hs, r⟩ := g T w'
  exact ⟨t, o, X.ldc2Long hx hown (mvT hZ (hw _ w1)) (g := mkF m pc Ls st) rfl (hb hby hd) _ hs, r⟩
theorem s_ldc (H : Ok Z k R Q y b ml rt) {i : Nat} {z : Int32} (hd : decode b pc = .ok (.ldc i, 2)) (w1 : Jvm.Cond.constant y.cls i z ∈ tables_1) (hp : pc + 2 = pc') (g : Go Z k cn sn M pc' Ls (.int z :: st)) : Go Z k cn sn M pc Ls st := by
  obtain ⟨p, l, e, R', s, m, args, below, meth, c, Q'⟩ := k
  obtain ⟨hx, hZ, hby, -, hown, -, -, -, ⟨a0, hw⟩, -⟩ := H
  subst hp
  intro T w
  have w' := w
  obtain ⟨locs, X, F, O⟩ := w
  obtain ⟨t, o, hs, r⟩ := g T w'
  exact ⟨t, o, X.ldcInt hx hown (mvT hZ (hw _ w1)) (g := mkF m pc Ls st) rfl (hb hby hd) _ hs, r⟩
theorem s_ldcw (H : Ok Z k R Q y b ml rt) {i : Nat} {z : Int32} (hd : decode b pc = .ok (.ldc_w i, 3)) (w1 : Jvm.Cond.constant y.cls i z ∈ tables_1) (hp : pc + 3 = pc') (g : Go Z k cn sn M pc' Ls (.int z :: st)) : Go Z k cn sn M pc Ls st := by
  obtain ⟨p, l, e, R', s, m, args, below, meth, c, Q'⟩ := k
  obtain ⟨hx, hZ, hby, -, hown, -, -, -, ⟨a0, hw⟩, -⟩ := H
  subst hp
  intro T w
  have w' := w
  obtain ⟨locs, X, F, O⟩ := w
  obtain ⟨t, o, hs, r⟩ := g T w'
  exact ⟨t, o, X.ldcwInt hx hown (mvT hZ (hw _ w1)) (g := mkF m pc Ls st) rfl (hb hby hd) _ hs, r⟩
/-! the heap's steps -/
theorem nb_of {n : Nat} {j : Int32} (h0 : ¬ j < 0) (hl : j.toNatClampNeg < n) : ¬ (j < 0 ∨ n ≤ j.toNatClampNeg) := fun q => q.elim h0 fun r => Nat.not_lt.mpr r hl
theorem s_alenI (H : Ok Z k R Q y b ml rt) {i : Nat} {a : Addr} {ty : FieldType} {vs : List Int32} {z : Int32} (hd : decode b pc = .ok (.arraylength, 1)) (hi : M[i]? = some (a, ArI Z ty vs)) (hz : z = vs.length.toInt32) (hp : pc + 1 = pc') (g : Go Z k cn sn M pc' Ls (.int z :: st)) : Go Z k cn sn M pc Ls (.ref a :: st) := by
  obtain ⟨p, l, e, R', s, m, args, below, meth, c, Q'⟩ := k
  obtain ⟨hx, hZ, hby, -⟩ := H
  subst hp hz
  intro T w
  have w' := w
  obtain ⟨locs, X, F, O⟩ := w
  obtain ⟨-, cl, q1, q2⟩ := O.2.1 i _ hi
  obtain ⟨t, o, hs, r⟩ := g T w'
  exact ⟨t, o, X.arraylength hx q1 (State.isArrayOf_alike hZ.alike q2.1) (g := mkF m pc Ls (.ref a :: st)) rfl rfl (hb hby hd) _ (by rw [q2.size]; exact hs), r⟩
theorem s_alenL (H : Ok Z k R Q y b ml rt) {i : Nat} {a : Addr} {vs : List Int64} {z : Int32} (hd : decode b pc = .ok (.arraylength, 1)) (hi : M[i]? = some (a, ArL Z vs)) (hz : z = vs.length.toInt32) (hp : pc + 1 = pc') (g : Go Z k cn sn M pc' Ls (.int z :: st)) : Go Z k cn sn M pc Ls (.ref a :: st) := by
  obtain ⟨p, l, e, R', s, m, args, below, meth, c, Q'⟩ := k
  obtain ⟨hx, hZ, hby, -⟩ := H
  subst hp hz
  intro T w
  have w' := w
  obtain ⟨locs, X, F, O⟩ := w
  obtain ⟨-, cl, q1, q2⟩ := O.2.1 i _ hi
  obtain ⟨t, o, hs, r⟩ := g T w'
  exact ⟨t, o, X.arraylength hx q1 (State.isArrayOf_alike hZ.alike q2.1) (g := mkF m pc Ls (.ref a :: st)) rfl rfl (hb hby hd) _ (by rw [q2.size]; exact hs), r⟩
theorem s_iaload (H : Ok Z k R Q y b ml rt) {i : Nat} {a : Addr} {vs : List Int32} {j : Int32} {x : Int32} (hd : decode b pc = .ok (.iaload, 1)) (hi : M[i]? = some (a, ArI Z .int vs)) (h0 : ¬ j < 0) {jn : Nat} (hjn : j.toNatClampNeg = jn) (hv : vs[jn]? = some x) (hp : pc + 1 = pc') (g : Go Z k cn sn M pc' Ls (.int x :: st)) : Go Z k cn sn M pc Ls (.int j :: .ref a :: st) := by
  obtain ⟨p, l, e, R', s, m, args, below, meth, c, Q'⟩ := k
  obtain ⟨hx, hZ, hby, -⟩ := H
  subst hp hjn
  intro T w
  have w' := w
  obtain ⟨locs, X, F, O⟩ := w
  obtain ⟨-, cl, q1, q2⟩ := O.2.1 i _ hi
  obtain ⟨t, o, hs, r⟩ := g T w'
  have hlt : j.toNatClampNeg < vs.length := (List.getElem?_eq_some_iff.mp hv).1
  exact ⟨t, o, X.iaload hx (v := .int x) q1 (State.isArrayOf_alike hZ.alike q2.1) q2.2.1 (nb_of h0 (by rw [q2.size]; exact hlt)) (by rw [q2.2.2.1]; simp [hv]) (g := mkF m pc Ls (.int j :: .ref a :: st)) rfl rfl (hb hby hd) _ hs, r⟩
theorem s_baload (H : Ok Z k R Q y b ml rt) {i : Nat} {a : Addr} {vs : List Int32} {j : Int32} {x : Int32} (hd : decode b pc = .ok (.baload, 1)) (hi : M[i]? = some (a, ArI Z .byte vs)) (h0 : ¬ j < 0) {jn : Nat} (hjn : j.toNatClampNeg = jn) (hv : vs[jn]? = some x) (hp : pc + 1 = pc') (g : Go Z k cn sn M pc' Ls (.int x :: st)) : Go Z k cn sn M pc Ls (.int j :: .ref a :: st) := by
  obtain ⟨p, l, e, R', s, m, args, below, meth, c, Q'⟩ := k
  obtain ⟨hx, hZ, hby, -⟩ := H
  subst hp hjn
  intro T w
  have w' := w
  obtain ⟨locs, X, F, O⟩ := w
  obtain ⟨-, cl, q1, q2⟩ := O.2.1 i _ hi
  obtain ⟨t, o, hs, r⟩ := g T w'
  have hlt : j.toNatClampNeg < vs.length := (List.getElem?_eq_some_iff.mp hv).1
  exact ⟨t, o, X.baloadBytes hx (v := .int x) q1 (State.isArrayOf_alike hZ.alike q2.1) q2.2.1 (nb_of h0 (by rw [q2.size]; exact hlt)) (by rw [q2.2.2.1]; simp [hv]) (g := mkF m pc Ls (.int j :: .ref a :: st)) rfl rfl (hb hby hd) _ hs, r⟩
theorem s_zaload (H : Ok Z k R Q y b ml rt) {i : Nat} {a : Addr} {vs : List Int32} {j : Int32} {x : Int32} (hd : decode b pc = .ok (.baload, 1)) (hi : M[i]? = some (a, ArI Z .boolean vs)) (h0 : ¬ j < 0) {jn : Nat} (hjn : j.toNatClampNeg = jn) (hv : vs[jn]? = some x) (hp : pc + 1 = pc') (g : Go Z k cn sn M pc' Ls (.int x :: st)) : Go Z k cn sn M pc Ls (.int j :: .ref a :: st) := by
  obtain ⟨p, l, e, R', s, m, args, below, meth, c, Q'⟩ := k
  obtain ⟨hx, hZ, hby, -⟩ := H
  subst hp hjn
  intro T w
  have w' := w
  obtain ⟨locs, X, F, O⟩ := w
  obtain ⟨-, cl, q1, q2⟩ := O.2.1 i _ hi
  obtain ⟨t, o, hs, r⟩ := g T w'
  have hlt : j.toNatClampNeg < vs.length := (List.getElem?_eq_some_iff.mp hv).1
  exact ⟨t, o, X.baloadBooleans hx (v := .int x) q1 (State.isArrayOf_alike hZ.alike q2.1) q2.2.1 (nb_of h0 (by rw [q2.size]; exact hlt)) (by rw [q2.2.2.1]; simp [hv]) (g := mkF m pc Ls (.int j :: .ref a :: st)) rfl rfl (hb hby hd) _ hs, r⟩
theorem s_laload (H : Ok Z k R Q y b ml rt) {i : Nat} {a : Addr} {vs : List Int64} {j : Int32} {x : Int64} (hd : decode b pc = .ok (.laload, 1)) (hi : M[i]? = some (a, ArL Z vs)) (h0 : ¬ j < 0) {jn : Nat} (hjn : j.toNatClampNeg = jn) (hv : vs[jn]? = some x) (hp : pc + 1 = pc') (g : Go Z k cn sn M pc' Ls (.long x :: st)) : Go Z k cn sn M pc Ls (.int j :: .ref a :: st) := by
  obtain ⟨p, l, e, R', s, m, args, below, meth, c, Q'⟩ := k
  obtain ⟨hx, hZ, hby, -⟩ := H
  subst hp hjn
  intro T w
  have w' := w
  obtain ⟨locs, X, F, O⟩ := w
  obtain ⟨-, cl, q1, q2⟩ := O.2.1 i _ hi
  obtain ⟨t, o, hs, r⟩ := g T w'
  have hlt : j.toNatClampNeg < vs.length := (List.getElem?_eq_some_iff.mp hv).1
  exact ⟨t, o, X.laload hx (v := .long x) q1 (State.isArrayOf_alike hZ.alike q2.1) q2.2.1 (nb_of h0 (by rw [q2.size]; exact hlt)) (by rw [q2.2.2.1]; simp [hv]) (g := mkF m pc Ls (.int j :: .ref a :: st)) rfl rfl (hb hby hd) _ hs, r⟩
theorem s_iastore (H : Ok Z k R Q y b ml rt) {i : Nat} {a : Addr} {vs : List Int32} {j : Int32} {x : Int32} (hd : decode b pc = .ok (.iastore, 1)) (hi : M[i]? = some (a, ArI Z .int vs)) (h0 : ¬ j < 0) {jn : Nat} (hjn : j.toNatClampNeg = jn) (hj : jn < vs.length) (hp : pc + 1 = pc') (g : Go Z k cn sn (M.set i (a, ArI Z .int (vs.set jn x))) pc' Ls st) : Go Z k cn sn M pc Ls (.int x :: .int j :: .ref a :: st) := by
  obtain ⟨p, l, e, R', s, m, args, below, meth, c, Q'⟩ := k
  obtain ⟨hx, hZ, hby, -⟩ := H
  subst hp hjn
  intro T w
  obtain ⟨locs, X, F, O⟩ := w
  obtain ⟨q0, cl, q1, q2⟩ := O.2.1 i _ hi
  obtain ⟨T', h', X', e', W, sg⟩ := stI X hx hZ rfl (q2.arr q1) (j := j) (nb_of h0 (by rw [q2.size]; exact hj)) (g := mkF m pc Ls (.int x :: .int j :: .ref a :: st)) rfl rfl (hb hby hd)
  obtain ⟨t, o, hs, r⟩ := g T' ⟨_, X', Fr.snoc X' F q0, e' ▸ O.upd hi W fun c _ hc => hc.put _ rfl⟩
  exact ⟨t, o, sg _ hs, r⟩
theorem s_bastore (H : Ok Z k R Q y b ml rt) {i : Nat} {a : Addr} {vs : List Int32} {j : Int32} {x0 x : Int32} (hd : decode b pc = .ok (.bastore, 1)) (hi : M[i]? = some (a, ArI Z .byte vs)) (h0 : ¬ j < 0) {jn : Nat} (hjn : j.toNatClampNeg = jn) (hj : jn < vs.length) (hn : x = nar .byte x0) (hp : pc + 1 = pc') (g : Go Z k cn sn (M.set i (a, ArI Z .byte (vs.set jn x))) pc' Ls st) : Go Z k cn sn M pc Ls (.int x0 :: .int j :: .ref a :: st) := by
  obtain ⟨p, l, e, R', s, m, args, below, meth, c, Q'⟩ := k
  obtain ⟨hx, hZ, hby, -⟩ := H
  subst hp hjn hn
  intro T w
  obtain ⟨locs, X, F, O⟩ := w
  obtain ⟨q0, cl, q1, q2⟩ := O.2.1 i _ hi
  obtain ⟨T', h', X', e', W, sg⟩ := stB X hx hZ rfl (q2.arr q1) (j := j) (nb_of h0 (by rw [q2.size]; exact hj)) (g := mkF m pc Ls (.int x0 :: .int j :: .ref a :: st)) rfl rfl (hb hby hd)
  obtain ⟨t, o, hs, r⟩ := g T' ⟨_, X', Fr.snoc X' F q0, e' ▸ O.upd hi W fun c _ hc => hc.put _ (fits_nar_byte _)⟩
  exact ⟨t, o, sg _ hs, r⟩
theorem s_zastore (H : Ok Z k R Q y b ml rt) {i : Nat} {a : Addr} {vs : List Int32} {j : Int32} {x0 x : Int32} (hd : decode b pc = .ok (.bastore, 1)) (hi : M[i]? = some (a, ArI Z .boolean vs)) (h0 : ¬ j < 0) {jn : Nat} (hjn : j.toNatClampNeg = jn) (hj : jn < vs.length) (hn : x = nar .boolean x0) (hp : pc + 1 = pc') (g : Go Z k cn sn (M.set i (a, ArI Z .boolean (vs.set jn x))) pc' Ls st) : Go Z k cn sn M pc Ls (.int x0 :: .int j :: .ref a :: st) := by
  obtain ⟨p, l, e, R', s, m, args, below, meth, c, Q'⟩ := k
  obtain ⟨hx, hZ, hby, -⟩ := H
  subst hp hjn hn
  intro T w
  obtain ⟨locs, X, F, O⟩ := w
  obtain ⟨q0, cl, q1, q2⟩ := O.2.1 i _ hi
  obtain ⟨T', h', X', e', W, sg⟩ := stZ X hx hZ rfl (q2.arr q1) (j := j) (nb_of h0 (by rw [q2.size]; exact hj)) (g := mkF m pc Ls (.int x0 :: .int j :: .ref a :: st)) rfl rfl (hb hby hd)
  obtain ⟨t, o, hs, r⟩ := g T' ⟨_, X', Fr.snoc X' F q0, e' ▸ O.upd hi W fun c _ hc => hc.put _ (fits_nar_bool _)⟩
  exact ⟨t, o, sg _ hs, r⟩
theorem s_lastore (H : Ok Z k R Q y b ml rt) {i : Nat} {a : Addr} {vs : List Int64} {j : Int32} {x : Int64} (hd : decode b pc = .ok (.lastore, 1)) (hi : M[i]? = some (a, ArL Z vs)) (h0 : ¬ j < 0) {jn : Nat} (hjn : j.toNatClampNeg = jn) (hj : jn < vs.length) (hp : pc + 1 = pc') (g : Go Z k cn sn (M.set i (a, ArL Z (vs.set jn x))) pc' Ls st) : Go Z k cn sn M pc Ls (.long x :: .int j :: .ref a :: st) := by
  obtain ⟨p, l, e, R', s, m, args, below, meth, c, Q'⟩ := k
  obtain ⟨hx, hZ, hby, -⟩ := H
  subst hp hjn
  intro T w
  obtain ⟨locs, X, F, O⟩ := w
  obtain ⟨q0, cl, q1, q2⟩ := O.2.1 i _ hi
  obtain ⟨T', h', X', e', W, sg⟩ := stJ X hx hZ rfl (q2.arr q1) (j := j) (nb_of h0 (by rw [q2.size]; exact hj)) (g := mkF m pc Ls (.long x :: .int j :: .ref a :: st)) rfl rfl (hb hby hd)
  obtain ⟨t, o, hs, r⟩ := g T' ⟨_, X', Fr.snoc X' F q0, e' ▸ O.upd hi W fun c _ hc => hc.put _⟩
  exact ⟨t, o, sg _ hs, r⟩
theorem s_getf (H : Ok Z k R Q y b ml rt) {i j idx : Nat} {a : Addr} {C O n d : String} {fs : List Fd} {v : Value} (hd : decode b pc = .ok (.getfield idx, 3)) (w1 : Jvm.Cond.fieldLink y.cls idx O n d ∈ tables_1) (hi : M[i]? = some (a, Obj Z C fs)) (hj : fs[j]? = some (O, n, d, v)) (hp : pc + 3 = pc') (g : Go Z k cn sn M pc' Ls (v :: st)) : Go Z k cn sn M pc Ls (.ref a :: st) := by
  obtain ⟨p, l, e, R', s, m, args, below, meth, c, Q'⟩ := k
  obtain ⟨hx, hZ, hby, -, hown, -, -, -, ⟨a0, hw⟩, -⟩ := H
  subst hp
  intro T w
  obtain ⟨locs, X, F, OO⟩ := w
  obtain ⟨-, cl, q1, q2⟩ := OO.2.1 i _ hi
  obtain ⟨T', X', e', sg⟩ := getF X hx hZ hown (host := "") (Or.inl (hw _ w1)) Via.refl rfl ((q2.1 _ _ q1).2 j _ hj) (g := mkF m pc Ls (.ref a :: st)) rfl rfl (hb hby hd)
  obtain ⟨t, o, hs, r⟩ := g T' ⟨_, X', F, e' ▸ OO⟩
  exact ⟨t, o, sg _ hs, r⟩
theorem s_getfN (H : Ok Z k R Q y b ml rt) {i j idx : Nat} {a : Addr} {C O n d host : String} {fs : List Fd} {v : Value} (hd : decode b pc = .ok (.getfield idx, 3)) (w1 : Jvm.Cond.fieldLinkNest y.cls idx O n d host ∈ tables_1) (hi : M[i]? = some (a, Obj Z C fs)) (hj : fs[j]? = some (O, n, d, v)) (hp : pc + 3 = pc') (g : Go Z k cn sn M pc' Ls (v :: st)) : Go Z k cn sn M pc Ls (.ref a :: st) := by
  obtain ⟨p, l, e, R', s, m, args, below, meth, c, Q'⟩ := k
  obtain ⟨hx, hZ, hby, -, hown, -, -, -, ⟨a0, hw⟩, -⟩ := H
  subst hp
  intro T w
  obtain ⟨locs, X, F, OO⟩ := w
  obtain ⟨-, cl, q1, q2⟩ := OO.2.1 i _ hi
  obtain ⟨T', X', e', sg⟩ := getF X hx hZ hown (host := host) (Or.inr (hw _ w1)) Via.refl rfl ((q2.1 _ _ q1).2 j _ hj) (g := mkF m pc Ls (.ref a :: st)) rfl rfl (hb hby hd)
  obtain ⟨t, o, hs, r⟩ := g T' ⟨_, X', F, e' ▸ OO⟩
  exact ⟨t, o, sg _ hs, r⟩
theorem s_putf (H : Ok Z k R Q y b ml rt) {i j idx kk : Nat} {a : Addr} {C O n d : String} {fs : List Fd} {v v0 : Value} {ty : FieldType} (hd : decode b pc = .ok (.putfield idx, 3)) (w1 : Jvm.Cond.fieldLink y.cls idx O n d ∈ tables_1) (w2 : Jvm.Cond.lays C O n d ∈ tables_1 ∨ (Jvm.Cond.laysFinal C O n d ∈ tables_1 ∧ y.cls = O ∧ y.name = "<init>")) (w3 : Jvm.Cond.instantiable C kk ∈ tables_1)
    (hty : parseFieldDescriptor d = some ty) (hn : narrow ty v = v) (hf : fits ty v = true) (hi : M[i]? = some (a, Obj Z C fs)) (hj : fs[j]? = some (O, n, d, v0)) (hp : pc + 3 = pc') (g : Go Z k cn sn (M.set i (a, Obj Z C (fs.set j (O, n, d, v)))) pc' Ls st) : Go Z k cn sn M pc Ls (v :: .ref a :: st) := by
  obtain ⟨p, l, e, R', s, m, args, below, meth, c, Q'⟩ := k
  obtain ⟨hx, hZ, hby, -, hown, hnm, -, -, ⟨a0, hw⟩, -⟩ := H
  subst hp
  intro T w
  obtain ⟨locs, X, F, OO⟩ := w
  obtain ⟨q0, cl, q1, q2⟩ := OO.2.1 i _ hi
  obtain ⟨T', h', X', e', W, sg⟩ := putF X hx hZ hown (host := "") (Or.inl (hw _ w1)) Via.refl rfl ((q2.1 _ _ q1).2 j _ hj) (q2.1 _ _ q1).1 (w2.imp (fun q => hw _ q) fun q => ⟨hw _ q.1, q.2.1, hnm.trans q.2.2⟩) (hw _ w3) hty hn hf (g := mkF m pc Ls (v :: .ref a :: st)) rfl rfl (hb hby hd)
  obtain ⟨t, o, hs, r⟩ := g T' ⟨_, X', Fr.snoc X' F q0, e' ▸ OO.upd hi W fun c hc1 hc => hc.put hj hc1 W⟩
  exact ⟨t, o, sg _ hs, r⟩
def Dflt (C : String) (f : Fd) : Prop := (Jvm.Cond.lays C f.1 f.2.1 f.2.2.1 ∈ tables_1 ∨ Jvm.Cond.laysFinal C f.1 f.2.1 f.2.2.1 ∈ tables_1) ∧ ∃ ty, parseFieldDescriptor f.2.2.1 = some ty ∧ f.2.2.2 = defaultValue ty
theorem s_new (H : Ok Z k R Q y b ml rt) {idx n cn' sn' : Nat} {C : String} (fs : List Fd) (hd : decode b pc = .ok (.new idx, 3)) (w1 : Jvm.Cond.classLink y.cls idx C ∈ tables_1) (w2 : Jvm.Cond.instantiable C n ∈ tables_1) (w3 : Jvm.Cond.initialized C ∈ tables_1) (hD : ∀ f ∈ fs, Dflt C f) (hN : (fs.map fun f => f.2.1).Nodup) (hc : cn + 1 = cn') (hs : sn + n = sn') (hc' : cn' ≤ R.cells) (hs' : sn' ≤ R.slots) (hp : pc + 3 = pc')
    (g : ∀ a, Go Z k cn' sn' ((a, Obj Z C fs) :: M) pc' Ls (.ref a :: st)) : Go Z k cn sn M pc Ls st := by
  obtain ⟨p, l, e, R', s, m, args, below, meth, c, Q'⟩ := k
  obtain ⟨hx, hZ, hby, -, hown, hnm, -, -, ⟨a0, hw⟩, rfl, -⟩ := H
  subst hp hc hs
  intro T w
  obtain ⟨locs, X, F, OO⟩ := w
  obtain ⟨T', h', X', e', E, A, D, ⟨cell, hcell, -⟩, sg⟩ := newO X hx hZ hown (hw _ w1) (hw _ w2) (hw _ w3) rfl (g := mkF m pc Ls st) rfl (hb hby hd) hc' hs'
  have hL : ∀ f ∈ fs, Laid Z a0 C f.1 f.2.1 f.2.2.1 := fun f hf => (hD f hf).1.imp (fun q => hw _ q) fun q => hw _ q
  have hB : Obj Z C fs cell := by
    refine ⟨fun h2 a2 hc2 => ⟨exa_at_cell A hcell hc2, fun i f hf => ?_⟩, fun i j f f' hf hf' es => ?_⟩
    · have hm := List.mem_of_getElem? hf
      obtain ⟨-, ty, h1, h2⟩ := hD f hm
      rw [h2]
      exact fld_at_cell (D (hL f hm) h1) hcell hc2
    · obtain ⟨-, ty, h1, -⟩ := hD f (List.mem_of_getElem? hf)
      obtain ⟨-, ty', h1', -⟩ := hD f' (List.mem_of_getElem? hf')
      have hne : f.2.1 = f'.2.1 := Classical.byContradiction fun q => slot_ne (hL f (List.mem_of_getElem? hf)) (hL f' (List.mem_of_getElem? hf')) q h1 h1' es
      rw [List.nodup_iff_pairwise_ne, List.pairwise_iff_getElem] at hN
      obtain ⟨hi, rfl⟩ := List.getElem?_eq_some_iff.mp hf
      obtain ⟨hj, rfl⟩ := List.getElem?_eq_some_iff.mp hf'
      rcases Nat.lt_trichotomy i j with lt | rfl | lt
      · exact (hN i j (by simpa using hi) (by simpa using hj) lt (by simpa using hne)).elim
      · rfl
      · exact (hN j i (by simpa using hj) (by simpa using hi) lt (by simpa using hne.symm)).elim
  obtain ⟨t, o, hs, r⟩ := g _ T' ⟨_, X', F, e' ▸ OO.new E hcell hB⟩
  exact ⟨t, o, sg _ hs, r⟩
theorem s_newarr_int (H : Ok Z k R Q y b ml rt) {cn' sn' cap : Nat} {n : Int32} (hd : decode b pc = .ok (.newarray .int, 2)) (w1 : Jvm.Cond.arrayClass .int ∈ tables_1) (hn : ¬ n < 0) (hcap : n.toNatClampNeg ≤ cap) (hb8 : cap * 8 ≤ 536870912) (hc : cn + 1 = cn') (hs : sn + cap = sn') (hc' : cn' ≤ R.cells) (hs' : sn' ≤ R.slots) (hp : pc + 2 = pc')
    (g : ∀ a, Go Z k cn' sn' ((a, ArI Z .int (List.replicate n.toNatClampNeg 0)) :: M) pc' Ls (.ref a :: st)) : Go Z k cn sn M pc Ls (.int n :: st) := by
  obtain ⟨p, l, e, R', s, m, args, below, meth, c, Q'⟩ := k
  obtain ⟨hx, hZ, hby, -, hown, hnm, -, -, ⟨a0, hw⟩, rfl, -⟩ := H
  subst hp hc hs
  intro T w
  obtain ⟨locs, X, F, OO⟩ := w
  obtain ⟨T', h', cA, X', e', E, A, sg⟩ := newP X hx hZ (aty := .int) (hw _ w1) rfl (g := mkF m pc Ls (.int n :: st)) rfl (hb hby hd) rfl hn hcap hb8 hc' hs'
  have hB : ArI Z .int (List.replicate n.toNatClampNeg 0) (newA cA .int n) := ⟨A.2.1, A.2.2, by simp [newA, defaultValue], by simp; omega, fun x hx => by rw [List.eq_of_mem_replicate hx]; rfl⟩
  obtain ⟨t, o, hs, r⟩ := g _ T' ⟨_, X', F, e' ▸ OO.new E A.1 hB⟩
  exact ⟨t, o, sg _ hs, r⟩
theorem s_newarr_byte (H : Ok Z k R Q y b ml rt) {cn' sn' cap : Nat} {n : Int32} (hd : decode b pc = .ok (.newarray .byte, 2)) (w1 : Jvm.Cond.arrayClass .byte ∈ tables_1) (hn : ¬ n < 0) (hcap : n.toNatClampNeg ≤ cap) (hb8 : cap * 8 ≤ 536870912) (hc : cn + 1 = cn') (hs : sn + cap = sn') (hc' : cn' ≤ R.cells) (hs' : sn' ≤ R.slots) (hp : pc + 2 = pc')
    (g : ∀ a, Go Z k cn' sn' ((a, ArI Z .byte (List.replicate n.toNatClampNeg 0)) :: M) pc' Ls (.ref a :: st)) : Go Z k cn sn M pc Ls (.int n :: st) := by
  obtain ⟨p, l, e, R', s, m, args, below, meth, c, Q'⟩ := k
  obtain ⟨hx, hZ, hby, -, hown, hnm, -, -, ⟨a0, hw⟩, rfl, -⟩ := H
  subst hp hc hs
  intro T w
  obtain ⟨locs, X, F, OO⟩ := w
  obtain ⟨T', h', cA, X', e', E, A, sg⟩ := newP X hx hZ (aty := .byte) (hw _ w1) rfl (g := mkF m pc Ls (.int n :: st)) rfl (hb hby hd) rfl hn hcap hb8 hc' hs'
  have hB : ArI Z .byte (List.replicate n.toNatClampNeg 0) (newA cA .byte n) := ⟨A.2.1, A.2.2, by simp [newA, defaultValue], by simp; omega, fun x hx => by rw [List.eq_of_mem_replicate hx]; rfl⟩
  obtain ⟨t, o, hs, r⟩ := g _ T' ⟨_, X', F, e' ▸ OO.new E A.1 hB⟩
  exact ⟨t, o, sg _ hs, r⟩
theorem s_newarr_bool (H : Ok Z k R Q y b ml rt) {cn' sn' cap : Nat} {n : Int32} (hd : decode b pc = .ok (.newarray .boolean, 2)) (w1 : Jvm.Cond.arrayClass .boolean ∈ tables_1) (hn : ¬ n < 0) (hcap : n.toNatClampNeg ≤ cap) (hb8 : cap * 8 ≤ 536870912) (hc : cn + 1 = cn') (hs : sn + cap = sn') (hc' : cn' ≤ R.cells) (hs' : sn' ≤ R.slots) (hp : pc + 2 = pc')
    (g : ∀ a, Go Z k cn' sn' ((a, ArI Z .boolean (List.replicate n.toNatClampNeg 0)) :: M) pc' Ls (.ref a :: st)) : Go Z k cn sn M pc Ls (.int n :: st) := by
  obtain ⟨p, l, e, R', s, m, args, below, meth, c, Q'⟩ := k
  obtain ⟨hx, hZ, hby, -, hown, hnm, -, -, ⟨a0, hw⟩, rfl, -⟩ := H
  subst hp hc hs
  intro T w
  obtain ⟨locs, X, F, OO⟩ := w
  obtain ⟨T', h', cA, X', e', E, A, sg⟩ := newP X hx hZ (aty := .boolean) (hw _ w1) rfl (g := mkF m pc Ls (.int n :: st)) rfl (hb hby hd) rfl hn hcap hb8 hc' hs'
  have hB : ArI Z .boolean (List.replicate n.toNatClampNeg 0) (newA cA .boolean n) := ⟨A.2.1, A.2.2, by simp [newA, defaultValue], by simp; omega, fun x hx => by rw [List.eq_of_mem_replicate hx]; rfl⟩
  obtain ⟨t, o, hs, r⟩ := g _ T' ⟨_, X', F, e' ▸ OO.new E A.1 hB⟩
  exact ⟨t, o, sg _ hs, r⟩
theorem s_newarr_long (H : Ok Z k R Q y b ml rt) {cn' sn' cap : Nat} {n : Int32} (hd : decode b pc = .ok (.newarray .long, 2)) (w1 : Jvm.Cond.arrayClass .long ∈ tables_1) (hn : ¬ n < 0) (hcap : n.toNatClampNeg ≤ cap) (hb8 : cap * 8 ≤ 536870912) (hc : cn + 1 = cn') (hs : sn + cap = sn') (hc' : cn' ≤ R.cells) (hs' : sn' ≤ R.slots) (hp : pc + 2 = pc')
    (g : ∀ a, Go Z k cn' sn' ((a, ArL Z (List.replicate n.toNatClampNeg 0)) :: M) pc' Ls (.ref a :: st)) : Go Z k cn sn M pc Ls (.int n :: st) := by
  obtain ⟨p, l, e, R', s, m, args, below, meth, c, Q'⟩ := k
  obtain ⟨hx, hZ, hby, -, hown, hnm, -, -, ⟨a0, hw⟩, rfl, -⟩ := H
  subst hp hc hs
  intro T w
  obtain ⟨locs, X, F, OO⟩ := w
  obtain ⟨T', h', cA, X', e', E, A, sg⟩ := newP X hx hZ (aty := .long) (hw _ w1) rfl (g := mkF m pc Ls (.int n :: st)) rfl (hb hby hd) rfl hn hcap hb8 hc' hs'
  have hB : ArL Z (List.replicate n.toNatClampNeg 0) (newA cA .long n) := ⟨A.2.1, A.2.2, by simp [newA, defaultValue], by simp; omega⟩
  obtain ⟨t, o, hs, r⟩ := g _ T' ⟨_, X', F, e' ▸ OO.new E A.1 hB⟩
  exact ⟨t, o, sg _ hs, r⟩
/-! OWN KIT 3: contracts and calls -/
def MQ (Z : State) (rm : Room) (Q : Option Value → Hp → Prop) (U : State) (o : Outcome) (U' : State) : Prop := ∃ v L, o = .returned v ∧ (Fr Z.heap.size L ∧ ∃ M, Q v M ∧ Own Z U'.heap M) ∧ FrameEnd U o U' L rm.cells rm.slots
def Met (Z : State) (y : MethodName) (b : ByteArray) (ml : Nat) (rt : Option FieldType) (rm : Room) (as : List Value) (M : Hp) (Q : Option Value → Hp → Prop) : Prop :=
  ∀ (l : Launch) (h0 : Heap), Own Z h0 M → MetFree l y (head1 [Jvm.Cond.code y b ml rt] rm) (fun a U => a = as.toArray ∧ Z.Warmed39 U.vm ∧ U.heap = h0) (fun _ _ _ _ _ => True) (fun _ U o U' => ∃ v L, o = .returned v ∧ (Fr Z.heap.size L ∧ ∃ M, Q v M ∧ Own Z U'.heap M) ∧ FrameEnd U o U' L rm.cells rm.slots)
theorem met_of {ws : List Jvm.Cond} {as : List Value} {rm : Room} {h0 : Heap} (l : Launch) (hT : Tb Z) (hpl : plainFor y = true) (hef : ∀ m, entryFrame m as.toArray ml = mkF m 0 Ls []) (hO : Own Z h0 M) (body : ∀ k, Ok Z k rm Q y b ml rt → Go Z k 0 0 M 0 Ls []) :
    MetFree l y (head1 (Jvm.Cond.code y b ml rt :: ws) rm) (fun a U => a = as.toArray ∧ Z.Warmed39 U.vm ∧ U.heap = h0) (fun _ _ _ _ _ => True) (fun _ U o U' => ∃ v L, o = .returned v ∧ (Fr Z.heap.size L ∧ ∃ M, Q v M ∧ Own Z U'.heap M) ∧ FrameEnd U o U' L rm.cells rm.slots) := by
  refine MetFree.of_bodySF hpl hisR ?_
  intro p e s m args below meth c s₁ Bd hml0 hP hK
  obtain ⟨rfl, hZ, hh⟩ := hP
  have X0 : Stand p l e rm s m as.toArray below meth c s₁ [] 0 0 := Stand.of_body Bd
  have e0 : s₁.heap = h0 := by rw [← hh, Bd.state]; rfl
  obtain ⟨t, o, hs, r⟩ := body (p, l, e, rm, s, m, as.toArray, below, meth, c, Q) ⟨Bd.exec, hZ, Bd.bytes, hml0, findClass_of_methodNamed Bd.named, (name_of_methodNamed Bd.named Bd.method).1, Bd.returns, Bd.notSynchronized, hT, rfl, rfl⟩ s₁ ⟨[], X0, Fr.nil _, e0 ▸ hO⟩
  exact ⟨t, o, castTop (hef m) hs, r⟩
theorem Met.of {as : List Value} {rm : Room} (hT : Tb Z) (hpl : plainFor y = true) (hef : ∀ m, entryFrame m as.toArray ml = mkF m 0 Ls []) (body : ∀ k, Ok Z k rm Q y b ml rt → Go Z k 0 0 M 0 Ls []) : Met Z y b ml rt rm as M Q := fun l h0 hO => met_of l hT hpl hef hO body
theorem Met.mono {as : List Value} {rm : Room} {Q' : Option Value → Hp → Prop} (h : Met Z y b ml rt rm as M Q) (q : ∀ v M, Q v M → Q' v M) : Met Z y b ml rt rm as M Q' := fun l h0 hO p e ha hc hk s m args below hf happ hP hK => by
  obtain ⟨n, o, h1, h2, h3, v, L, h4, ⟨h5, M', h6, h7⟩, h8⟩ := h l h0 hO p e ha hc hk s m args below hf happ hP hK
  exact ⟨n, o, h1, h2, h3, v, L, h4, ⟨h5, M', q _ _ h6, h7⟩, h8⟩
theorem s_ret (H : Ok Z k R Q y b ml (some ty)) {i : Instr} {w : Value} (hd : decode b pc = .ok (i, 1)) (hn : narrow ty w = w)
    (hi : (i = .ireturn ∧ (ty = .int ∨ ty = .boolean ∨ ty = .byte ∨ ty = .char ∨ ty = .short) ∧ ∃ z, w = .int z) ∨ (i = .lreturn ∧ ty = .long ∧ ∃ z, w = .long z) ∨ (i = .dreturn ∧ ty = .double ∧ ∃ z, w = .double z) ∨ (i = .freturn ∧ ty = .float ∧ ∃ z, w = .float z) ∨ (i = .areturn ∧ ty.isReference = true ∧ w.isRef = true))
    (hc : cn ≤ R.cells) (hs : sn ≤ R.slots) (q : Q (some w) M) : Go Z k cn sn M pc Ls (w :: st) := by
  obtain ⟨p, l, e, R', s, m, args, below, meth, c, Q'⟩ := k
  obtain ⟨hx, hZ, hby, -, -, -, hret, hlk, -, rfl, rfl⟩ := H
  intro T w'
  obtain ⟨locs, X, F, O⟩ := w'
  obtain ⟨fs, hr, hrun, hended, hW, hsame⟩ := X.leave (v := some w) (fun h => by rw [hret] at h; cases h) hlk
  exact ⟨_, _, retOut X hx hret hn hi (hb hby hd) hr, hrun, hended, _, _, rfl, ⟨F, M, q, O⟩, ⟨_, rfl⟩, hW, hsame.mono hc hs⟩
theorem s_iret (H : Ok Z k R Q y b ml (some ty)) {z : Int32} (hd : decode b pc = .ok (.ireturn, 1)) (hn : narrow ty (.int z) = .int z) (ht : ty = .int ∨ ty = .boolean ∨ ty = .byte ∨ ty = .char ∨ ty = .short) (hc : cn ≤ R.cells) (hs : sn ≤ R.slots) (q : Q (some (.int z)) M) : Go Z k cn sn M pc Ls (.int z :: st) := s_ret H hd hn (Or.inl ⟨rfl, ht, z, rfl⟩) hc hs q
theorem s_lret (H : Ok Z k R Q y b ml (some .long)) {z : Int64} (hd : decode b pc = .ok (.lreturn, 1)) (hc : cn ≤ R.cells) (hs : sn ≤ R.slots) (q : Q (some (.long z)) M) : Go Z k cn sn M pc Ls (.long z :: st) := s_ret H hd rfl (Or.inr (Or.inl ⟨rfl, rfl, z, rfl⟩)) hc hs q
theorem s_aret (H : Ok Z k R Q y b ml (some ty)) {a : Addr} (hd : decode b pc = .ok (.areturn, 1)) (hn : narrow ty (.ref a) = .ref a) (ht : ty.isReference = true) (hc : cn ≤ R.cells) (hs : sn ≤ R.slots) (q : Q (some (.ref a)) M) : Go Z k cn sn M pc Ls (.ref a :: st) := s_ret H hd hn (Or.inr (Or.inr (Or.inr (Or.inr ⟨rfl, ht, rfl⟩)))) hc hs q
theorem s_vret (H : Ok Z k R Q y b ml none) (hd : decode b pc = .ok (.return_, 1)) (hc : cn ≤ R.cells) (hs : sn ≤ R.slots) (q : Q none M) : Go Z k cn sn M pc Ls [] := by
  obtain ⟨p, l, e, R', s, m, args, below, meth, c, Q'⟩ := k
  obtain ⟨hx, hZ, hby, -, -, -, hret, hlk, -, rfl, rfl⟩ := H
  intro T w'
  obtain ⟨locs, X, F, O⟩ := w'
  obtain ⟨fs, hr, hrun, hended, hW, hsame⟩ := X.leave (v := none) (fun _ => rfl) hlk
  exact ⟨_, _, X.returnOut hx hret (hb hby hd) hr, hrun, hended, _, _, rfl, ⟨F, M, q, O⟩, ⟨_, rfl⟩, hW, hsame.mono hc hs⟩
theorem s_objinit (H : Ok Z k R Q y b ml rt) {idx : Nat} {a : Addr} (hd : decode b pc = .ok (.invokespecial idx, 3)) (w1 : Jvm.Cond.methodLink y.cls idx Lib.objectInit ∈ tables_1) (w2 : Jvm.Cond.instanceMethod Lib.objectInit ∈ tables_1) (w3 : Jvm.Cond.code Lib.objectInit ⟨#[0xb1]⟩ 1 none ∈ tables_1) (hsz : Ls.size = ml) (hf : 1 ≤ R.frames) (hl : (st.map fun v => v.category).sum + 12 ≤ R.locals) (hp : pc + 3 = pc') (g : Go Z k cn sn M pc' Ls st) : Go Z k cn sn M pc Ls (.ref a :: st) := by
  obtain ⟨p, l, e, R', s, m, args, below, meth, c, Q'⟩ := k
  obtain ⟨hx, hZ, hby, hml, hown, hnm, -, -, ⟨a0, hw⟩, rfl, -⟩ := H
  subst hp
  intro T w
  obtain ⟨locs, X, F, OO⟩ := w
  obtain ⟨T', X', e', sg⟩ := initO X hx hZ hown (hw _ w1) (hw _ w2) (hw _ w3) rfl (g := mkF m pc Ls (.ref a :: st)) rfl (by rw [hml]; exact hsz) rfl (hb hby hd) hf (W := (st.map fun v => v.category).sum) (by show 2 * 0 + _ ≤ _; omega) hl
  obtain ⟨t, o, hs, r⟩ := g T' ⟨_, X', F, e' ▸ OO⟩
  exact ⟨t, o, sg _ hs, r⟩
theorem s_static (H : Ok Z k R Q y b ml rt) {idx cn' sn' : Nat} {y' : MethodName} {b' : ByteArray} {ml' : Nat} {rt' : Option FieldType} {rm : Room} {as rest : List Value} {Q' : Option Value → Hp → Prop} {sig : MethodDescriptor}
    (hM : Met Z y' b' ml' rt' rm as M Q') (hd : decode b pc = .ok (.invokestatic idx, 3)) (w1 : Jvm.Cond.methodLink y.cls idx y' ∈ tables_1) (w2 : Jvm.Cond.static y' ∈ tables_1) (w3 : Jvm.Cond.initialized y'.cls ∈ tables_1) (w4 : Jvm.Cond.code y' b' ml' rt' ∈ tables_1) (hy : y'.cls ≠ "java/lang/invoke/MethodHandle" ∧ y'.cls ≠ "java/lang/invoke/VarHandle")
    (hsig : parseMethodDescriptor y'.desc = some sig) (hlen : as.length = sig.parameters.length) (hst : st = as.reverse ++ rest) (hsz : Ls.size = ml) (hf : rm.frames + 1 ≤ R.frames) (hl : (rest.map fun v => v.category).sum + (ml' + 11) + rm.locals ≤ R.locals) (hc : cn + rm.cells = cn') (hs : sn + rm.slots = sn') (hc' : cn' ≤ R.cells) (hs' : sn' ≤ R.slots) (hp : pc + 3 = pc')
    (g : ∀ v M', Q' v M' → Go Z k cn' sn' M' pc' Ls (v.toList ++ rest)) : Go Z k cn sn M pc Ls st := by
  obtain ⟨p, l, e, R', s, m, args, below, meth, c, Q''⟩ := k
  obtain ⟨hx, hZ, hby, hml, hown, hnm, -, -, ⟨a0, hw⟩, rfl, -⟩ := H
  subst hp hc hs hst
  intro T w
  obtain ⟨locs, X, F, OO⟩ := w
  obtain ⟨v, _, ⟨T', L', k', n'⟩, -, X', ⟨Lc, ⟨hF, M', hQ, hO⟩, q1, q2, q3⟩, sg⟩ := Jvm.LawKit.callS X hx (y := y') hown (mvT hZ (hw _ w1)) (mvT hZ (hw _ w2)) (mvT hZ (hw _ w3)) (mvT hZ (hw _ w4)) hy (backOf (W := (rest.map fun v => v.category).sum) (Q := fun v h L => Fr Z.heap.size L ∧ ∃ M', Q' v M' ∧ Own Z h M') (hM l _ OO) hZ (hw _ w4) (hw _ w3) hf hl) (g := mkF m pc Ls (as.reverse ++ rest)) rfl (by rw [hml]; exact hsz) (argsL := as) (rest := rest) (lenOf (ps := sig.parameters) (r := sig.returnType) hsig hlen) rfl (by show 2 * 0 + _ ≤ _; omega) (hb hby hd) (fun _ _ => ⟨rfl, rfl, hc', hs'⟩)
  dsimp only [Pt.U, Pt.locs, Pt.cells, Pt.slots] at X' q1 q2 q3 sg hO
  subst q1 q2 q3
  obtain ⟨t, o, hs, r⟩ := g v M' hQ T' ⟨_, X', Fr.app F hF, hO⟩
  exact ⟨t, o, sg _ hs, r⟩
theorem s_init (H : Ok Z k R Q y b ml rt) {idx cn' sn' : Nat} {a : Addr} {y' : MethodName} {b' : ByteArray} {ml' : Nat} {rm : Room} {as rest : List Value} {Q' : Option Value → Hp → Prop} {sig : MethodDescriptor}
    (hM : Met Z y' b' ml' none rm (.ref a :: as) M Q') (hd : decode b pc = .ok (.invokespecial idx, 3)) (hy1 : y'.name = "<init>") (w1 : Jvm.Cond.methodLink y.cls idx y' ∈ tables_1) (w2 : Jvm.Cond.instanceMethod y' ∈ tables_1) (w3 : Jvm.Cond.initialized y'.cls ∈ tables_1) (w4 : Jvm.Cond.code y' b' ml' none ∈ tables_1) (hy : y'.cls ≠ "java/lang/invoke/MethodHandle" ∧ y'.cls ≠ "java/lang/invoke/VarHandle")
    (hsig : parseMethodDescriptor y'.desc = some sig) (hlen : as.length = sig.parameters.length) (hst : st = as.reverse ++ .ref a :: rest) (hsz : Ls.size = ml) (hf : rm.frames + 1 ≤ R.frames) (hl : (rest.map fun v => v.category).sum + (ml' + 11) + rm.locals ≤ R.locals) (hc : cn + rm.cells = cn') (hs : sn + rm.slots = sn') (hc' : cn' ≤ R.cells) (hs' : sn' ≤ R.slots) (hp : pc + 3 = pc')
    (g : ∀ v M', Q' v M' → Go Z k cn' sn' M' pc' Ls (v.toList ++ rest)) : Go Z k cn sn M pc Ls st := by
  obtain ⟨p, l, e, R', s, m, args, below, meth, c, Q''⟩ := k
  obtain ⟨hx, hZ, hby, hml, hown, hnm, -, -, ⟨a0, hw⟩, rfl, -⟩ := H
  subst hp hc hs hst
  intro T w
  obtain ⟨locs, X, F, OO⟩ := w
  obtain ⟨v, _, ⟨T', L', k', n'⟩, -, X', ⟨Lc, ⟨hF, M', hQ, hO⟩, q1, q2, q3⟩, sg⟩ := X.specialBack hx (y := y') hy1 hown (mvT hZ (hw _ w1)) (mvT hZ (hw _ w2)) (mvT hZ (hw _ w4)) hy (backOf (W := (rest.map fun v => v.category).sum) (Q := fun v h L => Fr Z.heap.size L ∧ ∃ M', Q' v M' ∧ Own Z h M') (hM l _ OO) hZ (hw _ w4) (hw _ w3) hf hl) (g := mkF m pc Ls (as.reverse ++ .ref a :: rest)) rfl (by rw [hml]; exact hsz) (Steps.refl _) (a := a) (argsL := as) (rest := rest) (lenOf (ps := sig.parameters) (r := sig.returnType) hsig hlen) rfl (by show 2 * 0 + _ ≤ _; omega) (hb hby hd) (fun _ _ => ⟨rfl, rfl, hc', hs'⟩)
  dsimp only [Pt.U, Pt.locs, Pt.cells, Pt.slots] at X' q1 q2 q3 sg hO
  subst q1 q2 q3
  obtain ⟨t, o, hs, r⟩ := g v M' hQ T' ⟨_, X', Fr.app F hF, hO⟩
  exact ⟨t, o, sg.trans hs, r⟩
theorem s_virtual (H : Ok Z k R Q y b ml rt) {i idx cn' sn' : Nat} {a : Addr} {C : String} {fs : List Fd} {y' : MethodName} {b' : ByteArray} {ml' : Nat} {rt' : Option FieldType} {rm : Room} {as rest : List Value} {Q' : Option Value → Hp → Prop} {sig : MethodDescriptor}
    (hM : Met Z y' b' ml' rt' rm (.ref a :: as) M Q') (hd : decode b pc = .ok (.invokevirtual idx, 3)) (hi : M[i]? = some (a, Obj Z C fs)) (w1 : Jvm.Cond.methodLink y.cls idx y' ∈ tables_1) (w2 : Jvm.Cond.declares y' ∈ tables_1) (w5 : Jvm.Cond.selects C y' y' ∈ tables_1) (w6 : Jvm.Cond.instanceMethod y' ∈ tables_1) (w3 : Jvm.Cond.initialized y'.cls ∈ tables_1) (w4 : Jvm.Cond.code y' b' ml' rt' ∈ tables_1) (hy : y'.cls ≠ "java/lang/invoke/MethodHandle" ∧ y'.cls ≠ "java/lang/invoke/VarHandle")
    (hsig : parseMethodDescriptor y'.desc = some sig) (hlen : as.length = sig.parameters.length) (hst : st = as.reverse ++ .ref a :: rest) (hsz : Ls.size = ml) (hf : rm.frames + 1 ≤ R.frames) (hl : (rest.map fun v => v.category).sum + (ml' + 11) + rm.locals ≤ R.locals) (hc : cn + rm.cells = cn') (hs : sn + rm.slots = sn') (hc' : cn' ≤ R.cells) (hs' : sn' ≤ R.slots) (hp : pc + 3 = pc')
    (g : ∀ v M', Q' v M' → Go Z k cn' sn' M' pc' Ls (v.toList ++ rest)) : Go Z k cn sn M pc Ls st := by
  obtain ⟨p, l, e, R', s, m, args, below, meth, c, Q''⟩ := k
  obtain ⟨hx, hZ, hby, hml, hown, hnm, -, -, ⟨a0, hw⟩, rfl, -⟩ := H
  subst hp hc hs hst
  intro T w
  obtain ⟨locs, X, F, OO⟩ := w
  obtain ⟨-, cl, c1, c2⟩ := OO.2.1 i _ hi
  obtain ⟨cq, kq, qa, qb, qc⟩ := isOf hZ rfl (c2.1 _ _ c1).1
  obtain ⟨v, _, ⟨T', L', k', n'⟩, -, X', ⟨Lc, ⟨hF, M', hQ, hO⟩, q1, q2, q3⟩, sg⟩ := X.virtualBack hx (y := y') (z := y') hown (mvT hZ (hw _ w1)) (mvT hZ (hw _ w2)) (notFace_of_selects (args := #[]) (mvT hZ (hw _ w5))) (mvT hZ (hw _ w5)) (mvT hZ (hw _ w6)) hy (backOf (W := (rest.map fun v => v.category).sum) (Q := fun v h L => Fr Z.heap.size L ∧ ∃ M', Q' v M' ∧ Own Z h M') (hM l _ OO) hZ (hw _ w4) (hw _ w3) hf hl) qa qc (g := mkF m pc Ls (as.reverse ++ .ref a :: rest)) rfl (by rw [hml]; exact hsz) (Steps.refl _) (argsL := as) (rest := rest) (lenOf (ps := sig.parameters) (r := sig.returnType) hsig hlen) rfl (by show 2 * 0 + _ ≤ _; omega) (hb hby hd) (fun _ _ => ⟨rfl, rfl, hc', hs'⟩)
  dsimp only [Pt.U, Pt.locs, Pt.cells, Pt.slots] at X' q1 q2 q3 sg hO
  subst q1 q2 q3
  obtain ⟨t, o, hs, r⟩ := g v M' hQ T' ⟨_, X', Fr.app F hF, hO⟩
  exact ⟨t, o, sg.trans hs, r⟩
theorem s_priv (H : Ok Z k R Q y b ml rt) {i idx cn' sn' : Nat} {a : Addr} {C : String} {fs : List Fd} {y' y0 : MethodName} {b' : ByteArray} {ml' : Nat} {rt' : Option FieldType} {rm : Room} {as rest : List Value} {Q' : Option Value → Hp → Prop} {sig : MethodDescriptor}
    (hM : Met Z y' b' ml' rt' rm (.ref a :: as) M Q') (hd : decode b pc = .ok (.invokevirtual idx, 3)) (hi : M[i]? = some (a, Obj Z C fs)) (w1 : Jvm.Cond.methodLink y.cls idx y' ∈ tables_1) (w2 : Jvm.Cond.privateMethod y' ∈ tables_1) (w5 : Jvm.Cond.selects y'.cls y0 y0 ∈ tables_1) (h0 : y0.cls = y'.cls) (w6 : Jvm.Cond.instanceMethod y' ∈ tables_1) (w3 : Jvm.Cond.initialized y'.cls ∈ tables_1) (w4 : Jvm.Cond.code y' b' ml' rt' ∈ tables_1) (hy : y'.cls ≠ "java/lang/invoke/MethodHandle" ∧ y'.cls ≠ "java/lang/invoke/VarHandle")
    (hsig : parseMethodDescriptor y'.desc = some sig) (hlen : as.length = sig.parameters.length) (hst : st = as.reverse ++ .ref a :: rest) (hsz : Ls.size = ml) (hf : rm.frames + 1 ≤ R.frames) (hl : (rest.map fun v => v.category).sum + (ml' + 11) + rm.locals ≤ R.locals) (hc : cn + rm.cells = cn') (hs : sn + rm.slots = sn') (hc' : cn' ≤ R.cells) (hs' : sn' ≤ R.slots) (hp : pc + 3 = pc')
    (g : ∀ v M', Q' v M' → Go Z k cn' sn' M' pc' Ls (v.toList ++ rest)) : Go Z k cn sn M pc Ls st := by
  obtain ⟨p, l, e, R', s, m, args, below, meth, c, Q''⟩ := k
  obtain ⟨hx, hZ, hby, hml, hown, hnm, -, -, ⟨a0, hw⟩, rfl, -⟩ := H
  subst hp hc hs hst
  intro T w
  obtain ⟨locs, X, F, OO⟩ := w
  obtain ⟨-, cl, c1, c2⟩ := OO.2.1 i _ hi
  obtain ⟨cl', d1, d2⟩ := (c2.1 _ _ c1).1.cell
  have hpriv : s.PrivateAt y' := Cond.privateMethod_at (mvP hZ (hw _ w2) (args := #[]))
  obtain ⟨mk, mM, hn, hm, hst, hab⟩ := Cond.instanceMethod_spec (mvT (args := #[]) hZ (hw _ w6))
  obtain ⟨c3, r3, m3, -, -, n3, -, kP, hk, hkI⟩ := Cond.selects_spec (mvT (args := #[]) hZ (hw _ w5))
  have e3 : m3.cls = mk.cls := by
    have u1 := findClass_of_methodNamed n3
    have u2 := findClass_of_methodNamed hn
    rw [h0, u2] at u1; exact (Option.some.inj u1).symm
  rw [e3] at hk
  obtain ⟨mM', cM, hm2, -, -, -, -, -, -, hsg⟩ := Cond.code_spec hn (mvT (args := #[]) hZ (hw _ w4))
  cases hm.symm.trans hm2
  obtain ⟨vm₁, X₁, st₁⟩ := X.invokevirtual hx hown (mvT hZ (hw _ w1)) hn hm hst hk hkI hy (a := a) d1 d2 (selectMethod_private hm (hpriv mk _ hn hm)) hm hab hk hkI (g := mkF m pc Ls (as.reverse ++ .ref a :: rest)) rfl (argsL := as) (rest := rest) (lenOf (ps := sig.parameters) (r := sig.returnType) hsig hlen _ hsg) rfl (hb hby hd)
  have hK := backOf (l := l) (p := p) (e := e) (below := below) (R := R') (args := args) (len := 3) (W := (rest.map fun v => v.category).sum) (Q := fun v h L => Fr Z.heap.size L ∧ ∃ M', Q' v M' ∧ Own Z h M') (hM l _ OO) hZ (hw _ w4) (hw _ w3) hf hl
  obtain ⟨v, ⟨T', L', k', n'⟩, X', ⟨Lc, ⟨hF, M', hQ, hO⟩, q1, q2, q3⟩, sg⟩ := hK m meth c ⟨T.setVm vm₁, locs, cn, sn⟩ (mkF m pc Ls rest) (.invokevirtual idx) mk (.ref a :: as).toArray X₁ rfl (by rw [hml]; exact hsz) (hb hby hd) (by show 2 * 0 + (rest.map fun v => v.category).sum ≤ _; omega) (X₁.named hn) ⟨rfl, rfl, hc', hs'⟩
  dsimp only [Pt.U, Pt.locs, Pt.cells, Pt.slots] at X' q1 q2 q3 sg hO
  subst q1 q2 q3
  obtain ⟨t, o, hs, r⟩ := g v M' hQ T' ⟨_, X', Fr.app F hF, hO⟩
  exact ⟨t, o, st₁ _ (fun acts => by rw [doInvoke_state]; exact sg.trans hs), r⟩
end Kit
theorem own_nat {m : Nat} (h : m < 2147483648) : m.toInt32.toNatClampNeg = m ∧ ¬ m.toInt32 < 0 ∧ m.toInt32.toInt = m := by
  have e : m.toInt32.toInt = m := Int32.toInt_ofNat_small (by omega)
  refine ⟨?_, ?_, e⟩
  · show m.toInt32.toInt.toNat = m
    rw [e]; rfl
  · rw [Int32.lt_iff_toInt_lt, e, show (0 : Int32).toInt = 0 from by decide]; omega
theorem own_lt {m n : Nat} (h : m < 2147483648) (h' : n < 2147483648) : m.toInt32 < n.toInt32 ↔ m < n := by rw [Int32.lt_iff_toInt_lt, (own_nat h).2.2, (own_nat h').2.2]; omega
theorem own_le {m n : Nat} (h : m < 2147483648) (h' : n < 2147483648) : m.toInt32 ≤ n.toInt32 ↔ m ≤ n := by rw [Int32.le_iff_toInt_le, (own_nat h).2.2, (own_nat h').2.2]; omega
theorem own_succ (m : Nat) : m.toInt32 + 1 = (m + 1).toInt32 := by
  show Int32.ofNat m + Int32.ofNat 1 = Int32.ofNat (m + 1)
  rw [← Int32.ofNat_add]
theorem allN {α : Type} {P : α → Prop} : ∀ x ∈ ([] : List α), P x := fun _ q => nomatch q
theorem allC {α : Type} {P : α → Prop} {z : α} {L : List α} (q : P z) (r : ∀ x ∈ L, P x) : ∀ x ∈ z :: L, P x := fun x h => (List.mem_cons.mp h).elim (fun u => u ▸ q) (r x)
/-! OWN KIT 5: getfield by an entry that is resolved already; getstatic -/
section Refs
variable {Z : State} {k : Cx} {R : Room} {Q : Option Value → Hp → Prop} {y : MethodName} {b : ByteArray} {ml : Nat} {rt : Option FieldType} {cn sn : Nat} {M : Hp} {pc pc' : Nat} {Ls : Array Slot} {st : List Value}
theorem s_getfR (H : Ok Z k R Q y b ml rt) {i j idx : Nat} {a : Addr} {C O n d : String} {fs : List Fd} {v : Value} (hd : decode b pc = .ok (.getfield idx, 3)) (w1 : Jvm.Cond.fieldRef y.cls idx O n d ∈ tables_1) (hi : M[i]? = some (a, Obj Z C fs)) (hj : fs[j]? = some (O, n, d, v)) (hp : pc + 3 = pc') (g : Go Z k cn sn M pc' Ls (v :: st)) : Go Z k cn sn M pc Ls (.ref a :: st) := by
  obtain ⟨p, l, e, R', s, m, args, below, meth, c, Q'⟩ := k
  obtain ⟨hx, hZ, hby, -, hown, -, -, -, ⟨a0, hw⟩, -⟩ := H
  subst hp
  intro T w
  have w' := w
  obtain ⟨locs, X, F, OO⟩ := w
  obtain ⟨-, cl, q1, q2⟩ := OO.2.1 i _ hi
  have hT : Z.Warmed39 T.vm := wtrans hZ X.warmed
  have wT := Cond.fieldRef_warmed39 hT (hw _ w1)
  have hcur : T.vm.findClass y.cls = some m.cls := by rw [X.warmed.alike.findClass]; exact hown
  obtain ⟨c', k', i', f', hf, hr⟩ := Cond.fieldRef_spec (s := Z.setVm T.vm) hcur wT
  obtain ⟨cell, cf, kf, i0, f, h1, h2, h3, h4, -, -, h7⟩ := (q2.1 _ _ q1).2 j _ hj
  obtain ⟨k2, hf2, -⟩ := State.fieldFound?_setVm (s := Z) hT.alike h2
  cases hf.symm.trans hf2
  obtain ⟨t, o, hs, r⟩ := g T w'
  exact ⟨t, o, (X.getfieldR hx (g := mkF m pc Ls (.ref a :: st)) rfl hr h3 rfl h1 h4 h7 (hb hby hd) (Steps.refl _)).trans hs, r⟩
theorem s_gets (H : Ok Z k R Q y b ml rt) {idx : Nat} {O n d : String} {v : Value} (hS : Sta Z Z.heap O n d v) (hd : decode b pc = .ok (.getstatic idx, 3)) (w1 : Jvm.Cond.fieldLink y.cls idx O n d ∈ tables_1) (hp : pc + 3 = pc') (g : Go Z k cn sn M pc' Ls (v :: st)) : Go Z k cn sn M pc Ls st := by
  obtain ⟨p, l, e, R', s, m, args, below, meth, c, Q'⟩ := k
  obtain ⟨hx, hZ, hby, -, hown, -, -, -, ⟨a0, hw⟩, -⟩ := H
  subst hp
  intro T w
  obtain ⟨locs, X, F, OO⟩ := w
  obtain ⟨T', X', e', sg⟩ := getS2 X hx hZ hown (host := "") (Or.inl (hw _ w1)) Via.refl rfl (hS.ext OO.1) (g := mkF m pc Ls st) rfl (hb hby hd)
  obtain ⟨t, o, hs, r⟩ := g T' ⟨_, X', F, e' ▸ OO⟩
  exact ⟨t, o, sg _ hs, r⟩
end Refs
abbrev y_1 : MethodName := ⟨"com/example/workflow_net_analyzer/workflownetanalyzer/statespace/MarkingTable", "<init>", "(I)V"⟩
theorem d1_0 : decode prog_50_method_1_code 0 = .ok (.aload_n 0, 1) := by decide +kernel
theorem d1_1 : decode prog_50_method_1_code 1 = .ok (.invokespecial 3, 3) := by decide +kernel
theorem d1_4 : decode prog_50_method_1_code 4 = .ok (.aload_n 0, 1) := by decide +kernel
theorem d1_5 : decode prog_50_method_1_code 5 = .ok (.new 9, 3) := by decide +kernel
theorem d1_8 : decode prog_50_method_1_code 8 = .ok (.dup, 1) := by decide +kernel
theorem d1_9 : decode prog_50_method_1_code 9 = .ok (.invokespecial 11, 3) := by decide +kernel
theorem d1_12 : decode prog_50_method_1_code 12 = .ok (.putfield 12, 3) := by decide +kernel
theorem d1_15 : decode prog_50_method_1_code 15 = .ok (.aload_n 0, 1) := by decide +kernel
theorem d1_16 : decode prog_50_method_1_code 16 = .ok (.sipush 1024, 3) := by decide +kernel
theorem d1_19 : decode prog_50_method_1_code 19 = .ok (.newarray .long, 2) := by decide +kernel
theorem d1_21 : decode prog_50_method_1_code 21 = .ok (.putfield 16, 3) := by decide +kernel
theorem d1_24 : decode prog_50_method_1_code 24 = .ok (.aload_n 0, 1) := by decide +kernel
theorem d1_25 : decode prog_50_method_1_code 25 = .ok (.iload_n 1, 1) := by decide +kernel
theorem d1_26 : decode prog_50_method_1_code 26 = .ok (.putfield 20, 3) := by decide +kernel
theorem d1_29 : decode prog_50_method_1_code 29 = .ok (.aload_n 0, 1) := by decide +kernel
theorem d1_30 : decode prog_50_method_1_code 30 = .ok (.new 24, 3) := by decide +kernel
theorem d1_33 : decode prog_50_method_1_code 33 = .ok (.dup, 1) := by decide +kernel
theorem d1_34 : decode prog_50_method_1_code 34 = .ok (.iconst 1, 1) := by decide +kernel
theorem d1_35 : decode prog_50_method_1_code 35 = .ok (.iload_n 1, 1) := by decide +kernel
theorem d1_36 : decode prog_50_method_1_code 36 = .ok (.invokespecial 26, 3) := by decide +kernel
theorem d1_39 : decode prog_50_method_1_code 39 = .ok (.putfield 29, 3) := by decide +kernel
theorem d1_42 : decode prog_50_method_1_code 42 = .ok (.return_, 1) := by decide +kernel
theorem pl_1 : plainFor y_1 = true := plainFor_of_name (by first | (simp [plainName, overriddenIn]; done) | decide +kernel)
theorem pd_1 : parseMethodDescriptor "(I)V" = some ⟨[.int], none⟩ := by decide +kernel
abbrev y_3 : MethodName := ⟨"java/util/ArrayList", "<init>", "()V"⟩
theorem d3_0 : decode jdk_38_method_2_code 0 = .ok (.aload_n 0, 1) := by decide +kernel
theorem d3_1 : decode jdk_38_method_2_code 1 = .ok (.invokespecial 1, 3) := by decide +kernel
theorem d3_4 : decode jdk_38_method_2_code 4 = .ok (.aload_n 0, 1) := by decide +kernel
theorem d3_5 : decode jdk_38_method_2_code 5 = .ok (.getstatic 39, 3) := by decide +kernel
theorem d3_8 : decode jdk_38_method_2_code 8 = .ok (.putfield 9, 3) := by decide +kernel
theorem d3_11 : decode jdk_38_method_2_code 11 = .ok (.return_, 1) := by decide +kernel
theorem pl_3 : plainFor y_3 = true := plainFor_of_name (by first | (simp [plainName, overriddenIn]; done) | decide +kernel)
theorem pd_3 : parseMethodDescriptor "()V" = some ⟨[], none⟩ := by decide +kernel
abbrev y_4 : MethodName := ⟨"java/util/AbstractList", "<init>", "()V"⟩
theorem d4_0 : decode jdk_39_method_1_code 0 = .ok (.aload_n 0, 1) := by decide +kernel
theorem d4_1 : decode jdk_39_method_1_code 1 = .ok (.invokespecial 1, 3) := by decide +kernel
theorem d4_4 : decode jdk_39_method_1_code 4 = .ok (.aload_n 0, 1) := by decide +kernel
theorem d4_5 : decode jdk_39_method_1_code 5 = .ok (.iconst 0, 1) := by decide +kernel
theorem d4_6 : decode jdk_39_method_1_code 6 = .ok (.putfield 7, 3) := by decide +kernel
theorem d4_9 : decode jdk_39_method_1_code 9 = .ok (.return_, 1) := by decide +kernel
theorem pl_4 : plainFor y_4 = true := plainFor_of_name (by first | (simp [plainName, overriddenIn]; done) | decide +kernel)
theorem pd_4 : parseMethodDescriptor "()V" = some ⟨[], none⟩ := by decide +kernel
abbrev y_5 : MethodName := ⟨"java/util/AbstractCollection", "<init>", "()V"⟩
theorem d5_0 : decode jdk_22_method_1_code 0 = .ok (.aload_n 0, 1) := by decide +kernel
theorem d5_1 : decode jdk_22_method_1_code 1 = .ok (.invokespecial 1, 3) := by decide +kernel
theorem d5_4 : decode jdk_22_method_1_code 4 = .ok (.return_, 1) := by decide +kernel
theorem pl_5 : plainFor y_5 = true := plainFor_of_name (by first | (simp [plainName, overriddenIn]; done) | decide +kernel)
theorem pd_5 : parseMethodDescriptor "()V" = some ⟨[], none⟩ := by decide +kernel
abbrev y_6 : MethodName := ⟨"com/example/workflow_net_analyzer/workflownetanalyzer/statespace/MarkingTable$Layout", "<init>", "(II)V"⟩
theorem d6_0 : decode prog_51_method_1_code 0 = .ok (.aload_n 0, 1) := by decide +kernel
theorem d6_1 : decode prog_51_method_1_code 1 = .ok (.invokespecial 3, 3) := by decide +kernel
theorem d6_4 : decode prog_51_method_1_code 4 = .ok (.aload_n 0, 1) := by decide +kernel
theorem d6_5 : decode prog_51_method_1_code 5 = .ok (.iload_n 1, 1) := by decide +kernel
theorem d6_6 : decode prog_51_method_1_code 6 = .ok (.putfield 9, 3) := by decide +kernel
theorem d6_9 : decode prog_51_method_1_code 9 = .ok (.aload_n 0, 1) := by decide +kernel
theorem d6_10 : decode prog_51_method_1_code 10 = .ok (.iload_n 1, 1) := by decide +kernel
theorem d6_11 : decode prog_51_method_1_code 11 = .ok (.invokestatic 15, 3) := by decide +kernel
theorem d6_14 : decode prog_51_method_1_code 14 = .ok (.putfield 21, 3) := by decide +kernel
theorem d6_17 : decode prog_51_method_1_code 17 = .ok (.aload_n 0, 1) := by decide +kernel
theorem d6_18 : decode prog_51_method_1_code 18 = .ok (.bipush 6, 2) := by decide +kernel
theorem d6_20 : decode prog_51_method_1_code 20 = .ok (.aload_n 0, 1) := by decide +kernel
theorem d6_21 : decode prog_51_method_1_code 21 = .ok (.getfield 21, 3) := by decide +kernel
theorem d6_24 : decode prog_51_method_1_code 24 = .ok (.isub, 1) := by decide +kernel
theorem d6_25 : decode prog_51_method_1_code 25 = .ok (.putfield 24, 3) := by decide +kernel
theorem d6_28 : decode prog_51_method_1_code 28 = .ok (.aload_n 0, 1) := by decide +kernel
theorem d6_29 : decode prog_51_method_1_code 29 = .ok (.iload_n 1, 1) := by decide +kernel
theorem d6_30 : decode prog_51_method_1_code 30 = .ok (.bipush 64, 2) := by decide +kernel
theorem d6_32 : decode prog_51_method_1_code 32 = .ok (.if_icmp .ne 9, 3) := by decide +kernel
theorem d6_35 : decode prog_51_method_1_code 35 = .ok (.ldc2_w 27, 3) := by decide +kernel
theorem d6_38 : decode prog_51_method_1_code 38 = .ok (.goto 8, 3) := by decide +kernel
theorem d6_41 : decode prog_51_method_1_code 41 = .ok (.lconst 1, 1) := by decide +kernel
theorem d6_42 : decode prog_51_method_1_code 42 = .ok (.iload_n 1, 1) := by decide +kernel
theorem d6_43 : decode prog_51_method_1_code 43 = .ok (.lshl, 1) := by decide +kernel
theorem d6_44 : decode prog_51_method_1_code 44 = .ok (.lconst 1, 1) := by decide +kernel
theorem d6_45 : decode prog_51_method_1_code 45 = .ok (.lsub, 1) := by decide +kernel
theorem d6_46 : decode prog_51_method_1_code 46 = .ok (.putfield 29, 3) := by decide +kernel
theorem d6_49 : decode prog_51_method_1_code 49 = .ok (.aload_n 0, 1) := by decide +kernel
theorem d6_50 : decode prog_51_method_1_code 50 = .ok (.iconst 1, 1) := by decide +kernel
theorem d6_51 : decode prog_51_method_1_code 51 = .ok (.iload_n 2, 1) := by decide +kernel
theorem d6_52 : decode prog_51_method_1_code 52 = .ok (.iconst 1, 1) := by decide +kernel
theorem d6_53 : decode prog_51_method_1_code 53 = .ok (.aload_n 0, 1) := by decide +kernel
theorem d6_54 : decode prog_51_method_1_code 54 = .ok (.getfield 24, 3) := by decide +kernel
theorem d6_57 : decode prog_51_method_1_code 57 = .ok (.ishl, 1) := by decide +kernel
theorem d6_58 : decode prog_51_method_1_code 58 = .ok (.iadd, 1) := by decide +kernel
theorem d6_59 : decode prog_51_method_1_code 59 = .ok (.iconst 1, 1) := by decide +kernel
theorem d6_60 : decode prog_51_method_1_code 60 = .ok (.isub, 1) := by decide +kernel
theorem d6_61 : decode prog_51_method_1_code 61 = .ok (.aload_n 0, 1) := by decide +kernel
theorem d6_62 : decode prog_51_method_1_code 62 = .ok (.getfield 24, 3) := by decide +kernel
theorem d6_65 : decode prog_51_method_1_code 65 = .ok (.iushr, 1) := by decide +kernel
theorem d6_66 : decode prog_51_method_1_code 66 = .ok (.invokestatic 33, 3) := by decide +kernel
theorem d6_69 : decode prog_51_method_1_code 69 = .ok (.putfield 39, 3) := by decide +kernel
theorem d6_72 : decode prog_51_method_1_code 72 = .ok (.aload_n 0, 1) := by decide +kernel
theorem d6_73 : decode prog_51_method_1_code 73 = .ok (.bipush 31, 2) := by decide +kernel
theorem d6_75 : decode prog_51_method_1_code 75 = .ok (.iconst 1, 1) := by decide +kernel
theorem d6_76 : decode prog_51_method_1_code 76 = .ok (.ldc 42, 2) := by decide +kernel
theorem d6_78 : decode prog_51_method_1_code 78 = .ok (.aload_n 0, 1) := by decide +kernel
theorem d6_79 : decode prog_51_method_1_code 79 = .ok (.getfield 39, 3) := by decide +kernel
theorem d6_82 : decode prog_51_method_1_code 82 = .ok (.idiv, 1) := by decide +kernel
theorem d6_83 : decode prog_51_method_1_code 83 = .ok (.invokestatic 33, 3) := by decide +kernel
theorem d6_86 : decode prog_51_method_1_code 86 = .ok (.invokestatic 43, 3) := by decide +kernel
theorem d6_89 : decode prog_51_method_1_code 89 = .ok (.isub, 1) := by decide +kernel
theorem d6_90 : decode prog_51_method_1_code 90 = .ok (.putfield 46, 3) := by decide +kernel
theorem d6_93 : decode prog_51_method_1_code 93 = .ok (.return_, 1) := by decide +kernel
theorem pl_6 : plainFor y_6 = true := plainFor_of_name (by first | (simp [plainName, overriddenIn]; done) | decide +kernel)
theorem pd_6 : parseMethodDescriptor "(II)V" = some ⟨[.int, .int], none⟩ := by decide +kernel
abbrev y_7 : MethodName := ⟨"java/lang/Integer", "numberOfTrailingZeros", "(I)I"⟩
theorem d7_0 : decode jdk_33_method_48_code 0 = .ok (.iload_n 0, 1) := by decide +kernel
theorem d7_1 : decode jdk_33_method_48_code 1 = .ok (.iconst (-1), 1) := by decide +kernel
theorem d7_2 : decode jdk_33_method_48_code 2 = .ok (.ixor, 1) := by decide +kernel
theorem d7_3 : decode jdk_33_method_48_code 3 = .ok (.iload_n 0, 1) := by decide +kernel
theorem d7_4 : decode jdk_33_method_48_code 4 = .ok (.iconst 1, 1) := by decide +kernel
theorem d7_5 : decode jdk_33_method_48_code 5 = .ok (.isub, 1) := by decide +kernel
theorem d7_6 : decode jdk_33_method_48_code 6 = .ok (.iand, 1) := by decide +kernel
theorem d7_7 : decode jdk_33_method_48_code 7 = .ok (.istore_n 0, 1) := by decide +kernel
theorem d7_8 : decode jdk_33_method_48_code 8 = .ok (.iload_n 0, 1) := by decide +kernel
theorem d7_9 : decode jdk_33_method_48_code 9 = .ok (.ifCond .gt 8, 3) := by decide +kernel
theorem d7_12 : decode jdk_33_method_48_code 12 = .ok (.iload_n 0, 1) := by decide +kernel
theorem d7_13 : decode jdk_33_method_48_code 13 = .ok (.bipush 32, 2) := by decide +kernel
theorem d7_15 : decode jdk_33_method_48_code 15 = .ok (.iand, 1) := by decide +kernel
theorem d7_16 : decode jdk_33_method_48_code 16 = .ok (.ireturn, 1) := by decide +kernel
theorem d7_17 : decode jdk_33_method_48_code 17 = .ok (.iconst 1, 1) := by decide +kernel
theorem d7_18 : decode jdk_33_method_48_code 18 = .ok (.istore_n 1, 1) := by decide +kernel
theorem d7_19 : decode jdk_33_method_48_code 19 = .ok (.iload_n 0, 1) := by decide +kernel
theorem d7_20 : decode jdk_33_method_48_code 20 = .ok (.ldc_w 264, 3) := by decide +kernel
theorem d7_23 : decode jdk_33_method_48_code 23 = .ok (.if_icmp .le 11, 3) := by decide +kernel
theorem d7_26 : decode jdk_33_method_48_code 26 = .ok (.iinc 1 16, 3) := by decide +kernel
theorem d7_29 : decode jdk_33_method_48_code 29 = .ok (.iload_n 0, 1) := by decide +kernel
theorem d7_30 : decode jdk_33_method_48_code 30 = .ok (.bipush 16, 2) := by decide +kernel
theorem d7_32 : decode jdk_33_method_48_code 32 = .ok (.iushr, 1) := by decide +kernel
theorem d7_33 : decode jdk_33_method_48_code 33 = .ok (.istore_n 0, 1) := by decide +kernel
theorem d7_34 : decode jdk_33_method_48_code 34 = .ok (.iload_n 0, 1) := by decide +kernel
theorem d7_35 : decode jdk_33_method_48_code 35 = .ok (.sipush 256, 3) := by decide +kernel
theorem d7_38 : decode jdk_33_method_48_code 38 = .ok (.if_icmp .le 11, 3) := by decide +kernel
theorem d7_41 : decode jdk_33_method_48_code 41 = .ok (.iinc 1 8, 3) := by decide +kernel
theorem d7_44 : decode jdk_33_method_48_code 44 = .ok (.iload_n 0, 1) := by decide +kernel
theorem d7_45 : decode jdk_33_method_48_code 45 = .ok (.bipush 8, 2) := by decide +kernel
theorem d7_47 : decode jdk_33_method_48_code 47 = .ok (.iushr, 1) := by decide +kernel
theorem d7_48 : decode jdk_33_method_48_code 48 = .ok (.istore_n 0, 1) := by decide +kernel
theorem d7_49 : decode jdk_33_method_48_code 49 = .ok (.iload_n 0, 1) := by decide +kernel
theorem d7_50 : decode jdk_33_method_48_code 50 = .ok (.bipush 16, 2) := by decide +kernel
theorem d7_52 : decode jdk_33_method_48_code 52 = .ok (.if_icmp .le 10, 3) := by decide +kernel
theorem d7_55 : decode jdk_33_method_48_code 55 = .ok (.iinc 1 4, 3) := by decide +kernel
theorem d7_58 : decode jdk_33_method_48_code 58 = .ok (.iload_n 0, 1) := by decide +kernel
theorem d7_59 : decode jdk_33_method_48_code 59 = .ok (.iconst 4, 1) := by decide +kernel
theorem d7_60 : decode jdk_33_method_48_code 60 = .ok (.iushr, 1) := by decide +kernel
theorem d7_61 : decode jdk_33_method_48_code 61 = .ok (.istore_n 0, 1) := by decide +kernel
theorem d7_62 : decode jdk_33_method_48_code 62 = .ok (.iload_n 0, 1) := by decide +kernel
theorem d7_63 : decode jdk_33_method_48_code 63 = .ok (.iconst 4, 1) := by decide +kernel
theorem d7_64 : decode jdk_33_method_48_code 64 = .ok (.if_icmp .le 10, 3) := by decide +kernel
theorem d7_67 : decode jdk_33_method_48_code 67 = .ok (.iinc 1 2, 3) := by decide +kernel
theorem d7_70 : decode jdk_33_method_48_code 70 = .ok (.iload_n 0, 1) := by decide +kernel
theorem d7_71 : decode jdk_33_method_48_code 71 = .ok (.iconst 2, 1) := by decide +kernel
theorem d7_72 : decode jdk_33_method_48_code 72 = .ok (.iushr, 1) := by decide +kernel
theorem d7_73 : decode jdk_33_method_48_code 73 = .ok (.istore_n 0, 1) := by decide +kernel
theorem d7_74 : decode jdk_33_method_48_code 74 = .ok (.iload_n 1, 1) := by decide +kernel
theorem d7_75 : decode jdk_33_method_48_code 75 = .ok (.iload_n 0, 1) := by decide +kernel
theorem d7_76 : decode jdk_33_method_48_code 76 = .ok (.iconst 1, 1) := by decide +kernel
theorem d7_77 : decode jdk_33_method_48_code 77 = .ok (.iushr, 1) := by decide +kernel
theorem d7_78 : decode jdk_33_method_48_code 78 = .ok (.iadd, 1) := by decide +kernel
theorem d7_79 : decode jdk_33_method_48_code 79 = .ok (.ireturn, 1) := by decide +kernel
theorem pl_7 : plainFor y_7 = true := plainFor_of_name (by first | (simp [plainName, overriddenIn]; done) | decide +kernel)
theorem pd_7 : parseMethodDescriptor "(I)I" = some ⟨[.int], some .int⟩ := by decide +kernel
abbrev y_8 : MethodName := ⟨"java/lang/Math", "max", "(II)I"⟩
theorem d8_0 : decode jdk_29_method_65_code 0 = .ok (.iload_n 0, 1) := by decide +kernel
theorem d8_1 : decode jdk_29_method_65_code 1 = .ok (.iload_n 1, 1) := by decide +kernel
theorem d8_2 : decode jdk_29_method_65_code 2 = .ok (.if_icmp .lt 7, 3) := by decide +kernel
theorem d8_5 : decode jdk_29_method_65_code 5 = .ok (.iload_n 0, 1) := by decide +kernel
theorem d8_6 : decode jdk_29_method_65_code 6 = .ok (.goto 4, 3) := by decide +kernel
theorem d8_9 : decode jdk_29_method_65_code 9 = .ok (.iload_n 1, 1) := by decide +kernel
theorem d8_10 : decode jdk_29_method_65_code 10 = .ok (.ireturn, 1) := by decide +kernel
theorem pl_8 : plainFor y_8 = true := Jvm.Free.JP.mathPlain rfl (by decide +kernel)
theorem pd_8 : parseMethodDescriptor "(II)I" = some ⟨[.int, .int], some .int⟩ := by decide +kernel
abbrev y_9 : MethodName := ⟨"java/lang/Integer", "numberOfLeadingZeros", "(I)I"⟩
theorem d9_0 : decode jdk_33_method_47_code 0 = .ok (.iload_n 0, 1) := by decide +kernel
theorem d9_1 : decode jdk_33_method_47_code 1 = .ok (.ifCond .gt 14, 3) := by decide +kernel
theorem d9_4 : decode jdk_33_method_47_code 4 = .ok (.iload_n 0, 1) := by decide +kernel
theorem d9_5 : decode jdk_33_method_47_code 5 = .ok (.ifCond .ne 8, 3) := by decide +kernel
theorem d9_8 : decode jdk_33_method_47_code 8 = .ok (.bipush 32, 2) := by decide +kernel
theorem d9_10 : decode jdk_33_method_47_code 10 = .ok (.goto 4, 3) := by decide +kernel
theorem d9_13 : decode jdk_33_method_47_code 13 = .ok (.iconst 0, 1) := by decide +kernel
theorem d9_14 : decode jdk_33_method_47_code 14 = .ok (.ireturn, 1) := by decide +kernel
theorem d9_15 : decode jdk_33_method_47_code 15 = .ok (.bipush 31, 2) := by decide +kernel
theorem d9_17 : decode jdk_33_method_47_code 17 = .ok (.istore_n 1, 1) := by decide +kernel
theorem d9_18 : decode jdk_33_method_47_code 18 = .ok (.iload_n 0, 1) := by decide +kernel
theorem d9_19 : decode jdk_33_method_47_code 19 = .ok (.ldc_w 264, 3) := by decide +kernel
theorem d9_22 : decode jdk_33_method_47_code 22 = .ok (.if_icmp .lt 11, 3) := by decide +kernel
theorem d9_25 : decode jdk_33_method_47_code 25 = .ok (.iinc 1 (-16), 3) := by decide +kernel
theorem d9_28 : decode jdk_33_method_47_code 28 = .ok (.iload_n 0, 1) := by decide +kernel
theorem d9_29 : decode jdk_33_method_47_code 29 = .ok (.bipush 16, 2) := by decide +kernel
theorem d9_31 : decode jdk_33_method_47_code 31 = .ok (.iushr, 1) := by decide +kernel
theorem d9_32 : decode jdk_33_method_47_code 32 = .ok (.istore_n 0, 1) := by decide +kernel
theorem d9_33 : decode jdk_33_method_47_code 33 = .ok (.iload_n 0, 1) := by decide +kernel
theorem d9_34 : decode jdk_33_method_47_code 34 = .ok (.sipush 256, 3) := by decide +kernel
theorem d9_37 : decode jdk_33_method_47_code 37 = .ok (.if_icmp .lt 11, 3) := by decide +kernel
theorem d9_40 : decode jdk_33_method_47_code 40 = .ok (.iinc 1 (-8), 3) := by decide +kernel
theorem d9_43 : decode jdk_33_method_47_code 43 = .ok (.iload_n 0, 1) := by decide +kernel
theorem d9_44 : decode jdk_33_method_47_code 44 = .ok (.bipush 8, 2) := by decide +kernel
theorem d9_46 : decode jdk_33_method_47_code 46 = .ok (.iushr, 1) := by decide +kernel
theorem d9_47 : decode jdk_33_method_47_code 47 = .ok (.istore_n 0, 1) := by decide +kernel
theorem d9_48 : decode jdk_33_method_47_code 48 = .ok (.iload_n 0, 1) := by decide +kernel
theorem d9_49 : decode jdk_33_method_47_code 49 = .ok (.bipush 16, 2) := by decide +kernel
theorem d9_51 : decode jdk_33_method_47_code 51 = .ok (.if_icmp .lt 10, 3) := by decide +kernel
theorem d9_54 : decode jdk_33_method_47_code 54 = .ok (.iinc 1 (-4), 3) := by decide +kernel
theorem d9_57 : decode jdk_33_method_47_code 57 = .ok (.iload_n 0, 1) := by decide +kernel
theorem d9_58 : decode jdk_33_method_47_code 58 = .ok (.iconst 4, 1) := by decide +kernel
theorem d9_59 : decode jdk_33_method_47_code 59 = .ok (.iushr, 1) := by decide +kernel
theorem d9_60 : decode jdk_33_method_47_code 60 = .ok (.istore_n 0, 1) := by decide +kernel
theorem d9_61 : decode jdk_33_method_47_code 61 = .ok (.iload_n 0, 1) := by decide +kernel
theorem d9_62 : decode jdk_33_method_47_code 62 = .ok (.iconst 4, 1) := by decide +kernel
theorem d9_63 : decode jdk_33_method_47_code 63 = .ok (.if_icmp .lt 10, 3) := by decide +kernel
theorem d9_66 : decode jdk_33_method_47_code 66 = .ok (.iinc 1 (-2), 3) := by decide +kernel
theorem d9_69 : decode jdk_33_method_47_code 69 = .ok (.iload_n 0, 1) := by decide +kernel
theorem d9_70 : decode jdk_33_method_47_code 70 = .ok (.iconst 2, 1) := by decide +kernel
theorem d9_71 : decode jdk_33_method_47_code 71 = .ok (.iushr, 1) := by decide +kernel
theorem d9_72 : decode jdk_33_method_47_code 72 = .ok (.istore_n 0, 1) := by decide +kernel
theorem d9_73 : decode jdk_33_method_47_code 73 = .ok (.iload_n 1, 1) := by decide +kernel
theorem d9_74 : decode jdk_33_method_47_code 74 = .ok (.iload_n 0, 1) := by decide +kernel
theorem d9_75 : decode jdk_33_method_47_code 75 = .ok (.iconst 1, 1) := by decide +kernel
theorem d9_76 : decode jdk_33_method_47_code 76 = .ok (.iushr, 1) := by decide +kernel
theorem d9_77 : decode jdk_33_method_47_code 77 = .ok (.isub, 1) := by decide +kernel
theorem d9_78 : decode jdk_33_method_47_code 78 = .ok (.ireturn, 1) := by decide +kernel
theorem pl_9 : plainFor y_9 = true := plainFor_of_name (by first | (simp [plainName, overriddenIn]; done) | decide +kernel)
theorem pd_9 : parseMethodDescriptor "(I)I" = some ⟨[.int], some .int⟩ := by decide +kernel
abbrev y_10 : MethodName := ⟨"com/example/workflow_net_analyzer/workflownetanalyzer/statespace/MarkingTable", "widen", "(J)V"⟩
theorem d10_0 : decode prog_50_method_9_code 0 = .ok (.aload_n 0, 1) := by decide +kernel
theorem d10_1 : decode prog_50_method_9_code 1 = .ok (.getfield 29, 3) := by decide +kernel
theorem d10_4 : decode prog_50_method_9_code 4 = .ok (.getfield 65, 3) := by decide +kernel
theorem d10_7 : decode prog_50_method_9_code 7 = .ok (.istore_n 3, 1) := by decide +kernel
theorem d10_8 : decode prog_50_method_9_code 8 = .ok (.iload_n 3, 1) := by decide +kernel
theorem d10_9 : decode prog_50_method_9_code 9 = .ok (.bipush 64, 2) := by decide +kernel
theorem d10_11 : decode prog_50_method_9_code 11 = .ok (.if_icmp .ge 18, 3) := by decide +kernel
theorem d10_14 : decode prog_50_method_9_code 14 = .ok (.lload_n 1, 1) := by decide +kernel
theorem d10_15 : decode prog_50_method_9_code 15 = .ok (.iload_n 3, 1) := by decide +kernel
theorem d10_16 : decode prog_50_method_9_code 16 = .ok (.lushr, 1) := by decide +kernel
theorem d10_17 : decode prog_50_method_9_code 17 = .ok (.lconst 0, 1) := by decide +kernel
theorem d10_18 : decode prog_50_method_9_code 18 = .ok (.lcmp, 1) := by decide +kernel
theorem d10_19 : decode prog_50_method_9_code 19 = .ok (.ifCond .eq 10, 3) := by decide +kernel
theorem d10_22 : decode prog_50_method_9_code 22 = .ok (.iload_n 3, 1) := by decide +kernel
theorem d10_23 : decode prog_50_method_9_code 23 = .ok (.iconst 2, 1) := by decide +kernel
theorem d10_24 : decode prog_50_method_9_code 24 = .ok (.imul, 1) := by decide +kernel
theorem d10_25 : decode prog_50_method_9_code 25 = .ok (.istore_n 3, 1) := by decide +kernel
theorem d10_26 : decode prog_50_method_9_code 26 = .ok (.goto (-18), 3) := by decide +kernel
theorem d10_29 : decode prog_50_method_9_code 29 = .ok (.aload_n 0, 1) := by decide +kernel
theorem d10_30 : decode prog_50_method_9_code 30 = .ok (.getfield 29, 3) := by decide +kernel
theorem d10_33 : decode prog_50_method_9_code 33 = .ok (.astore 4, 2) := by decide +kernel
theorem d10_35 : decode prog_50_method_9_code 35 = .ok (.new 24, 3) := by decide +kernel
theorem d10_38 : decode prog_50_method_9_code 38 = .ok (.dup, 1) := by decide +kernel
theorem d10_39 : decode prog_50_method_9_code 39 = .ok (.iload_n 3, 1) := by decide +kernel
theorem d10_40 : decode prog_50_method_9_code 40 = .ok (.aload_n 0, 1) := by decide +kernel
theorem d10_41 : decode prog_50_method_9_code 41 = .ok (.getfield 20, 3) := by decide +kernel
theorem d10_44 : decode prog_50_method_9_code 44 = .ok (.invokespecial 26, 3) := by decide +kernel
theorem d10_47 : decode prog_50_method_9_code 47 = .ok (.astore 5, 2) := by decide +kernel
theorem d10_49 : decode prog_50_method_9_code 49 = .ok (.new 9, 3) := by decide +kernel
theorem d10_52 : decode prog_50_method_9_code 52 = .ok (.dup, 1) := by decide +kernel
theorem d10_53 : decode prog_50_method_9_code 53 = .ok (.invokespecial 11, 3) := by decide +kernel
theorem d10_56 : decode prog_50_method_9_code 56 = .ok (.astore 6, 2) := by decide +kernel
theorem d10_58 : decode prog_50_method_9_code 58 = .ok (.iconst 0, 1) := by decide +kernel
theorem d10_59 : decode prog_50_method_9_code 59 = .ok (.istore 7, 2) := by decide +kernel
theorem d10_61 : decode prog_50_method_9_code 61 = .ok (.iload 7, 2) := by decide +kernel
theorem d10_63 : decode prog_50_method_9_code 63 = .ok (.aload_n 0, 1) := by decide +kernel
theorem d10_64 : decode prog_50_method_9_code 64 = .ok (.getfield 33, 3) := by decide +kernel
theorem d10_67 : decode prog_50_method_9_code 67 = .ok (.if_icmp .ge 124, 3) := by decide +kernel
theorem d10_191 : decode prog_50_method_9_code 191 = .ok (.aload_n 0, 1) := by decide +kernel
theorem d10_192 : decode prog_50_method_9_code 192 = .ok (.aload 5, 2) := by decide +kernel
theorem d10_194 : decode prog_50_method_9_code 194 = .ok (.putfield 29, 3) := by decide +kernel
theorem d10_197 : decode prog_50_method_9_code 197 = .ok (.aload_n 0, 1) := by decide +kernel
theorem d10_198 : decode prog_50_method_9_code 198 = .ok (.aload 6, 2) := by decide +kernel
theorem d10_200 : decode prog_50_method_9_code 200 = .ok (.putfield 12, 3) := by decide +kernel
theorem d10_203 : decode prog_50_method_9_code 203 = .ok (.aload_n 0, 1) := by decide +kernel
theorem d10_204 : decode prog_50_method_9_code 204 = .ok (.aload_n 0, 1) := by decide +kernel
theorem d10_205 : decode prog_50_method_9_code 205 = .ok (.getfield 16, 3) := by decide +kernel
theorem d10_208 : decode prog_50_method_9_code 208 = .ok (.arraylength, 1) := by decide +kernel
theorem d10_209 : decode prog_50_method_9_code 209 = .ok (.newarray .long, 2) := by decide +kernel
theorem d10_211 : decode prog_50_method_9_code 211 = .ok (.putfield 16, 3) := by decide +kernel
theorem d10_214 : decode prog_50_method_9_code 214 = .ok (.iconst 0, 1) := by decide +kernel
theorem d10_215 : decode prog_50_method_9_code 215 = .ok (.istore 7, 2) := by decide +kernel
theorem d10_217 : decode prog_50_method_9_code 217 = .ok (.iload 7, 2) := by decide +kernel
theorem d10_219 : decode prog_50_method_9_code 219 = .ok (.aload_n 0, 1) := by decide +kernel
theorem d10_220 : decode prog_50_method_9_code 220 = .ok (.getfield 33, 3) := by decide +kernel
theorem d10_223 : decode prog_50_method_9_code 223 = .ok (.if_icmp .ge 49, 3) := by decide +kernel
theorem d10_272 : decode prog_50_method_9_code 272 = .ok (.return_, 1) := by decide +kernel
theorem pl_10 : plainFor y_10 = true := plainFor_of_name (by first | (simp [plainName, overriddenIn]; done) | decide +kernel)
theorem pd_10 : parseMethodDescriptor "(J)V" = some ⟨[.long], none⟩ := by decide +kernel
abbrev y_11 : MethodName := ⟨"com/example/workflow_net_analyzer/workflownetanalyzer/statespace/MarkingTable", "fits", "(J)Z"⟩
theorem d11_0 : decode prog_50_method_8_code 0 = .ok (.lload_n 1, 1) := by decide +kernel
theorem d11_1 : decode prog_50_method_8_code 1 = .ok (.aload_n 0, 1) := by decide +kernel
theorem d11_2 : decode prog_50_method_8_code 2 = .ok (.getfield 29, 3) := by decide +kernel
theorem d11_5 : decode prog_50_method_8_code 5 = .ok (.getfield 81, 3) := by decide +kernel
theorem d11_8 : decode prog_50_method_8_code 8 = .ok (.ldc2_w 85, 3) := by decide +kernel
theorem d11_11 : decode prog_50_method_8_code 11 = .ok (.lxor, 1) := by decide +kernel
theorem d11_12 : decode prog_50_method_8_code 12 = .ok (.land, 1) := by decide +kernel
theorem d11_13 : decode prog_50_method_8_code 13 = .ok (.lconst 0, 1) := by decide +kernel
theorem d11_14 : decode prog_50_method_8_code 14 = .ok (.lcmp, 1) := by decide +kernel
theorem d11_15 : decode prog_50_method_8_code 15 = .ok (.ifCond .ne 7, 3) := by decide +kernel
theorem d11_18 : decode prog_50_method_8_code 18 = .ok (.iconst 1, 1) := by decide +kernel
theorem d11_19 : decode prog_50_method_8_code 19 = .ok (.goto 4, 3) := by decide +kernel
theorem d11_22 : decode prog_50_method_8_code 22 = .ok (.iconst 0, 1) := by decide +kernel
theorem d11_23 : decode prog_50_method_8_code 23 = .ok (.ireturn, 1) := by decide +kernel
theorem pl_11 : plainFor y_11 = true := plainFor_of_name (by first | (simp [plainName, overriddenIn]; done) | decide +kernel)
theorem pd_11 : parseMethodDescriptor "(J)Z" = some ⟨[.long], some .boolean⟩ := by decide +kernel
abbrev y_12 : MethodName := ⟨"com/example/workflow_net_analyzer/workflownetanalyzer/statespace/MarkingTableFitsPinLaw", "expected", "(JJ)Z"⟩
theorem d12_0 : decode method_3_code 0 = .ok (.lload_n 0, 1) := by decide +kernel
theorem d12_1 : decode method_3_code 1 = .ok (.lconst 0, 1) := by decide +kernel
theorem d12_2 : decode method_3_code 2 = .ok (.lcmp, 1) := by decide +kernel
theorem d12_3 : decode method_3_code 3 = .ok (.ifCond .ge 18, 3) := by decide +kernel
theorem d12_6 : decode method_3_code 6 = .ok (.lload_n 2, 1) := by decide +kernel
theorem d12_7 : decode method_3_code 7 = .ok (.bipush 32, 2) := by decide +kernel
theorem d12_9 : decode method_3_code 9 = .ok (.lushr, 1) := by decide +kernel
theorem d12_10 : decode method_3_code 10 = .ok (.lconst 0, 1) := by decide +kernel
theorem d12_11 : decode method_3_code 11 = .ok (.lcmp, 1) := by decide +kernel
theorem d12_12 : decode method_3_code 12 = .ok (.ifCond .eq 7, 3) := by decide +kernel
theorem d12_15 : decode method_3_code 15 = .ok (.iconst 1, 1) := by decide +kernel
theorem d12_16 : decode method_3_code 16 = .ok (.goto 4, 3) := by decide +kernel
theorem d12_19 : decode method_3_code 19 = .ok (.iconst 0, 1) := by decide +kernel
theorem d12_20 : decode method_3_code 20 = .ok (.ireturn, 1) := by decide +kernel
theorem d12_21 : decode method_3_code 21 = .ok (.lload_n 2, 1) := by decide +kernel
theorem d12_22 : decode method_3_code 22 = .ok (.iconst 1, 1) := by decide +kernel
theorem d12_23 : decode method_3_code 23 = .ok (.lushr, 1) := by decide +kernel
theorem d12_24 : decode method_3_code 24 = .ok (.lconst 0, 1) := by decide +kernel
theorem d12_25 : decode method_3_code 25 = .ok (.lcmp, 1) := by decide +kernel
theorem d12_26 : decode method_3_code 26 = .ok (.ifCond .ne 9, 3) := by decide +kernel
theorem d12_29 : decode method_3_code 29 = .ok (.lconst 1, 1) := by decide +kernel
theorem d12_30 : decode method_3_code 30 = .ok (.lstore 4, 2) := by decide +kernel
theorem d12_32 : decode method_3_code 32 = .ok (.goto 88, 3) := by decide +kernel
theorem d12_35 : decode method_3_code 35 = .ok (.lload_n 2, 1) := by decide +kernel
theorem d12_36 : decode method_3_code 36 = .ok (.iconst 2, 1) := by decide +kernel
theorem d12_37 : decode method_3_code 37 = .ok (.lushr, 1) := by decide +kernel
theorem d12_38 : decode method_3_code 38 = .ok (.lconst 0, 1) := by decide +kernel
theorem d12_39 : decode method_3_code 39 = .ok (.lcmp, 1) := by decide +kernel
theorem d12_40 : decode method_3_code 40 = .ok (.ifCond .ne 11, 3) := by decide +kernel
theorem d12_43 : decode method_3_code 43 = .ok (.ldc2_w 26, 3) := by decide +kernel
theorem d12_46 : decode method_3_code 46 = .ok (.lstore 4, 2) := by decide +kernel
theorem d12_48 : decode method_3_code 48 = .ok (.goto 72, 3) := by decide +kernel
theorem d12_51 : decode method_3_code 51 = .ok (.lload_n 2, 1) := by decide +kernel
theorem d12_52 : decode method_3_code 52 = .ok (.iconst 4, 1) := by decide +kernel
theorem d12_53 : decode method_3_code 53 = .ok (.lushr, 1) := by decide +kernel
theorem d12_54 : decode method_3_code 54 = .ok (.lconst 0, 1) := by decide +kernel
theorem d12_55 : decode method_3_code 55 = .ok (.lcmp, 1) := by decide +kernel
theorem d12_56 : decode method_3_code 56 = .ok (.ifCond .ne 11, 3) := by decide +kernel
theorem d12_59 : decode method_3_code 59 = .ok (.ldc2_w 28, 3) := by decide +kernel
theorem d12_62 : decode method_3_code 62 = .ok (.lstore 4, 2) := by decide +kernel
theorem d12_64 : decode method_3_code 64 = .ok (.goto 56, 3) := by decide +kernel
theorem d12_67 : decode method_3_code 67 = .ok (.lload_n 2, 1) := by decide +kernel
theorem d12_68 : decode method_3_code 68 = .ok (.bipush 8, 2) := by decide +kernel
theorem d12_70 : decode method_3_code 70 = .ok (.lushr, 1) := by decide +kernel
theorem d12_71 : decode method_3_code 71 = .ok (.lconst 0, 1) := by decide +kernel
theorem d12_72 : decode method_3_code 72 = .ok (.lcmp, 1) := by decide +kernel
theorem d12_73 : decode method_3_code 73 = .ok (.ifCond .ne 11, 3) := by decide +kernel
theorem d12_76 : decode method_3_code 76 = .ok (.ldc2_w 30, 3) := by decide +kernel
theorem d12_79 : decode method_3_code 79 = .ok (.lstore 4, 2) := by decide +kernel
theorem d12_81 : decode method_3_code 81 = .ok (.goto 39, 3) := by decide +kernel
theorem d12_84 : decode method_3_code 84 = .ok (.lload_n 2, 1) := by decide +kernel
theorem d12_85 : decode method_3_code 85 = .ok (.bipush 16, 2) := by decide +kernel
theorem d12_87 : decode method_3_code 87 = .ok (.lushr, 1) := by decide +kernel
theorem d12_88 : decode method_3_code 88 = .ok (.lconst 0, 1) := by decide +kernel
theorem d12_89 : decode method_3_code 89 = .ok (.lcmp, 1) := by decide +kernel
theorem d12_90 : decode method_3_code 90 = .ok (.ifCond .ne 11, 3) := by decide +kernel
theorem d12_93 : decode method_3_code 93 = .ok (.ldc2_w 32, 3) := by decide +kernel
theorem d12_96 : decode method_3_code 96 = .ok (.lstore 4, 2) := by decide +kernel
theorem d12_98 : decode method_3_code 98 = .ok (.goto 22, 3) := by decide +kernel
theorem d12_101 : decode method_3_code 101 = .ok (.lload_n 2, 1) := by decide +kernel
theorem d12_102 : decode method_3_code 102 = .ok (.bipush 32, 2) := by decide +kernel
theorem d12_104 : decode method_3_code 104 = .ok (.lushr, 1) := by decide +kernel
theorem d12_105 : decode method_3_code 105 = .ok (.lconst 0, 1) := by decide +kernel
theorem d12_106 : decode method_3_code 106 = .ok (.lcmp, 1) := by decide +kernel
theorem d12_107 : decode method_3_code 107 = .ok (.ifCond .ne 11, 3) := by decide +kernel
theorem d12_110 : decode method_3_code 110 = .ok (.ldc2_w 34, 3) := by decide +kernel
theorem d12_113 : decode method_3_code 113 = .ok (.lstore 4, 2) := by decide +kernel
theorem d12_115 : decode method_3_code 115 = .ok (.goto 5, 3) := by decide +kernel
theorem d12_118 : decode method_3_code 118 = .ok (.iconst 1, 1) := by decide +kernel
theorem d12_119 : decode method_3_code 119 = .ok (.ireturn, 1) := by decide +kernel
theorem d12_120 : decode method_3_code 120 = .ok (.lload_n 0, 1) := by decide +kernel
theorem d12_121 : decode method_3_code 121 = .ok (.lload 4, 2) := by decide +kernel
theorem d12_123 : decode method_3_code 123 = .ok (.lcmp, 1) := by decide +kernel
theorem d12_124 : decode method_3_code 124 = .ok (.ifCond .gt 7, 3) := by decide +kernel
theorem d12_127 : decode method_3_code 127 = .ok (.iconst 1, 1) := by decide +kernel
theorem d12_128 : decode method_3_code 128 = .ok (.goto 4, 3) := by decide +kernel
theorem d12_131 : decode method_3_code 131 = .ok (.iconst 0, 1) := by decide +kernel
theorem d12_132 : decode method_3_code 132 = .ok (.ireturn, 1) := by decide +kernel
theorem pl_12 : plainFor y_12 = true := plainFor_of_name (by first | (simp [plainName, overriddenIn]; done) | decide +kernel)
theorem pd_12 : parseMethodDescriptor "(JJ)Z" = some ⟨[.long, .long], some .boolean⟩ := by decide +kernel
def LQ : Option Value → Hp → Prop := fun v _ => v = some (.int 1)
theorem own_addN (m n : Nat) : m.toInt32 + n.toInt32 = (m + n).toInt32 := (Int32.ofNat_add m n).symm
theorem own_subN {m n : Nat} (h : n ≤ m) (hm : m < 2147483648) : m.toInt32 - n.toInt32 = (m - n).toInt32 := by
  apply Int32.toInt_inj.mp
  have s := c_isub m.toInt32 n.toInt32
  have r := rng32 (m.toInt32 - n.toInt32)
  rw [(own_nat hm).2.2, (own_nat (by omega)).2.2] at s
  rw [(own_nat (m := m - n) (by omega)).2.2]
  omega
theorem own_modN {m n : Nat} (hm : m < 2147483648) (hn : n < 2147483648) : m.toInt32 % n.toInt32 = (m % n).toInt32 := by
  have : m % n ≤ m := Nat.mod_le m n
  apply Int32.toInt_inj.mp
  rw [Int32.toInt_mod, (own_nat hm).2.2, (own_nat hn).2.2, (own_nat (by omega)).2.2, Int.tmod_eq_emod_of_nonneg (by omega)]
  rfl
theorem own_inj {m n : Nat} (h : m < 2147483648) (h' : n < 2147483648) : m.toInt32 = n.toInt32 ↔ m = n := ⟨fun e => by have := congrArg Int32.toInt e; rw [(own_nat h).2.2, (own_nat h').2.2] at this; omega, fun e => by rw [e]⟩
theorem own_ne0 {n : Nat} (h : 0 < n) (h' : n < 2147483648) : n.toInt32 ≠ 0 := fun e => by
  have := (own_inj h' (by decide : 0 < 2147483648)).mp e
  omega
def mk (w : Int32) : Int64 := if w = 64 then -1 else ((1 : Int64) <<< (w &&& 0x3f).toInt64) - 1
abbrev ush (t : Int64) (w : Int32) : Int64 := (t.toUInt64 >>> (w &&& 0x3f).toInt64.toUInt64).toInt64
def WR (t : Int64) (k k' : Nat) : Prop := k ≤ k' ∧ k' ≤ 6 ∧ (∀ j, k ≤ j → j < k' → ¬ ush t (2 ^ j).toInt32 = 0) ∧ (k' = 6 ∨ ush t (2 ^ k').toInt32 = 0)
theorem pw_tab : ∀ k : Fin 7, (2 ^ k.val < 65) := by decide
theorem pw_b {k : Nat} (h : k ≤ 6) : 2 ^ k < 65 := pw_tab ⟨k, by omega⟩
theorem pw_dbl (k : Nat) : (2 ^ k).toInt32 * 2 = (2 ^ (k + 1)).toInt32 := by
  rw [Nat.pow_succ]; exact (Int32.ofNat_mul (2 ^ k) 2).symm
theorem pw_64 {k : Nat} (h : k ≤ 6) : (64 : Int32) ≤ (2 ^ k).toInt32 ↔ k = 6 := by
  rw [show (64 : Int32) = (64 : Nat).toInt32 from rfl, own_le (by decide) (by have := pw_b h; omega)]
  have : k = 0 ∨ k = 1 ∨ k = 2 ∨ k = 3 ∨ k = 4 ∨ k = 5 ∨ k = 6 := by omega
  rcases this with rfl | rfl | rfl | rfl | rfl | rfl | rfl <;> decide
theorem own_pw {a b c d e f g : Addr × (Cell → Prop)} {S : Hp} : (a :: b :: c :: d :: e :: f :: g :: S).Perm (c :: a :: b :: g :: d :: e :: f :: S) :=
  ((List.perm_append_comm (l₁ := [a, b]) (l₂ := [c])).append (List.perm_append_comm (l₁ := [d, e, f]) (l₂ := [g]))).append_right S
/-! masks -/
theorem and_not (t m : Int64) : t &&& (m ^^^ (-1 : Int64)) = 0 ↔ t &&& m = t := by
  rw [← Int64.toBitVec_inj, ← Int64.toBitVec_inj]
  show t.toBitVec &&& (m.toBitVec ^^^ BitVec.allOnes 64) = 0#64 ↔ t.toBitVec &&& m.toBitVec = t.toBitVec
  generalize t.toBitVec = x
  generalize m.toBitVec = y
  constructor
  · intro h
    apply BitVec.eq_of_getLsbD_eq
    intro i hi
    have := congrArg (fun z => z.getLsbD i) h
    simp only [BitVec.getLsbD_and, BitVec.getLsbD_xor, BitVec.getLsbD_allOnes, BitVec.getLsbD_zero, hi, decide_true] at this ⊢
    revert this
    cases x.getLsbD i <;> cases y.getLsbD i <;> simp
  · intro h
    apply BitVec.eq_of_getLsbD_eq
    intro i hi
    have := congrArg (fun z => z.getLsbD i) h
    simp only [BitVec.getLsbD_and, BitVec.getLsbD_xor, BitVec.getLsbD_allOnes, BitVec.getLsbD_zero, hi, decide_true] at this ⊢
    revert this
    cases x.getLsbD i <;> cases y.getLsbD i <;> simp
theorem and_mask (t m : Int64) (k : Nat) (hk : k ≤ 63) (hm : m.toBitVec.toNat = 2 ^ k - 1) : t &&& (m ^^^ (-1 : Int64)) = 0 ↔ 0 ≤ t.toInt ∧ t.toInt < (2 ^ k : Nat) := by
  rw [and_not, ← Int64.toInt_inj, c_maskL t m k hk hm]
  have pp : (0 : Int) < ((2 ^ k : Nat) : Int) := by have := Nat.two_pow_pos k; omega
  constructor
  · intro h; rw [← h]; exact ⟨Int.emod_nonneg _ (by omega), Int.emod_lt_of_pos _ pp⟩
  · rintro ⟨h1, h2⟩; exact Int.emod_eq_of_lt h1 h2
theorem ush0 (t : Int64) (q : Int32) (k : Nat) (hk : q.toBitVec.toNat % 64 = k) (h0 : 0 < k) : ush t q = 0 ↔ t.toInt % 18446744073709551616 < (2 ^ k : Nat) := by
  rw [← Int64.toInt_inj, c_lushr t q k hk h0, show (0 : Int64).toInt = 0 from by decide]
  have pp : (0 : Int) < ((2 ^ k : Nat) : Int) := by have := Nat.two_pow_pos k; omega
  have nn : 0 ≤ t.toInt % 18446744073709551616 := Int.emod_nonneg _ (by decide)
  constructor
  · intro h
    rcases Int.lt_or_le (t.toInt % 18446744073709551616) (2 ^ k : Nat) with q | q
    · exact q
    · have := (Int.le_ediv_iff_mul_le pp).mpr (by omega : 1 * ((2 ^ k : Nat) : Int) ≤ t.toInt % 18446744073709551616)
      omega
  · intro h; exact Int.ediv_eq_zero_of_lt nn h
set_option maxRecDepth 65536 in
set_option maxHeartbeats 40000000 in
theorem z73 {Z : State} {k : Cx} {F : Hp} {i n : Int32} (H : Ok Z k ({ frames := 0, cells := 0, slots := 0, locals := 0 } : Room) (fun v M' => ∃ z : Int32, v = some (.int z) ∧ M' = F) y_9 jdk_33_method_47_code 2 (some .int))  : Go Z k 0 0 (F) 73 #[.val (.int i), .val (.int n)] [] := by
  refine s_iloadn H d9_73 rfl (pc' := 74) rfl ?_
  refine s_iloadn H d9_74 rfl (pc' := 75) rfl ?_
  refine s_iconst H d9_75 (z := (1 : Int32)) (by decide) (pc' := 76) rfl ?_
  refine s_iushr H d9_76 (pc' := 77) rfl ?_
  refine s_isub H d9_77 (pc' := 78) rfl ?_
  exact s_iret H d9_78 rfl (Or.inl rfl) (by decide) (by decide) (⟨_, rfl, rfl⟩)
set_option maxRecDepth 65536 in
set_option maxHeartbeats 40000000 in
theorem z61 {Z : State} {k : Cx} {F : Hp} {i n : Int32} (H : Ok Z k ({ frames := 0, cells := 0, slots := 0, locals := 0 } : Room) (fun v M' => ∃ z : Int32, v = some (.int z) ∧ M' = F) y_9 jdk_33_method_47_code 2 (some .int))  : Go Z k 0 0 (F) 61 #[.val (.int i), .val (.int n)] [] := by
  refine s_iloadn H d9_61 rfl (pc' := 62) rfl ?_
  refine s_iconst H d9_62 (z := (4 : Int32)) (by decide) (pc' := 63) rfl ?_
  refine s_icmp H d9_63 (py := 73) (pc' := 66) q_lt (by decide) rfl (fun c63 => ?_) (fun c63 => ?_)
  · exact z73 H
  · refine s_iinc H d9_66 rfl (u := (-2 : Int32)) (by decide) (L' := fun z => #[.val (.int i), .val (.int z)]) (fun _ => rfl) (pc' := 69) rfl (fun v1 h_v1 => ?_)
    refine s_iloadn H d9_69 rfl (pc' := 70) rfl ?_
    refine s_iconst H d9_70 (z := (2 : Int32)) (by decide) (pc' := 71) rfl ?_
    refine s_iushr H d9_71 (pc' := 72) rfl ?_
    refine s_istoren H d9_72 (L' := fun z => #[.val (.int z), .val (.int v1)]) (fun _ => rfl) (pc' := 73) rfl (fun v2 h_v2 => ?_)
    exact z73 H
set_option maxRecDepth 65536 in
set_option maxHeartbeats 40000000 in
theorem z48 {Z : State} {k : Cx} {F : Hp} {i n : Int32} (H : Ok Z k ({ frames := 0, cells := 0, slots := 0, locals := 0 } : Room) (fun v M' => ∃ z : Int32, v = some (.int z) ∧ M' = F) y_9 jdk_33_method_47_code 2 (some .int))  : Go Z k 0 0 (F) 48 #[.val (.int i), .val (.int n)] [] := by
  refine s_iloadn H d9_48 rfl (pc' := 49) rfl ?_
  refine s_bipush H d9_49 (z := (16 : Int32)) (by decide) (pc' := 51) rfl ?_
  refine s_icmp H d9_51 (py := 61) (pc' := 54) q_lt (by decide) rfl (fun c51 => ?_) (fun c51 => ?_)
  · exact z61 H
  · refine s_iinc H d9_54 rfl (u := (-4 : Int32)) (by decide) (L' := fun z => #[.val (.int i), .val (.int z)]) (fun _ => rfl) (pc' := 57) rfl (fun v1 h_v1 => ?_)
    refine s_iloadn H d9_57 rfl (pc' := 58) rfl ?_
    refine s_iconst H d9_58 (z := (4 : Int32)) (by decide) (pc' := 59) rfl ?_
    refine s_iushr H d9_59 (pc' := 60) rfl ?_
    refine s_istoren H d9_60 (L' := fun z => #[.val (.int z), .val (.int v1)]) (fun _ => rfl) (pc' := 61) rfl (fun v2 h_v2 => ?_)
    exact z61 H
set_option maxRecDepth 65536 in
set_option maxHeartbeats 40000000 in
theorem z33 {Z : State} {k : Cx} {F : Hp} {i n : Int32} (H : Ok Z k ({ frames := 0, cells := 0, slots := 0, locals := 0 } : Room) (fun v M' => ∃ z : Int32, v = some (.int z) ∧ M' = F) y_9 jdk_33_method_47_code 2 (some .int))  : Go Z k 0 0 (F) 33 #[.val (.int i), .val (.int n)] [] := by
  refine s_iloadn H d9_33 rfl (pc' := 34) rfl ?_
  refine s_sipush H d9_34 (z := (256 : Int32)) (by decide) (pc' := 37) rfl ?_
  refine s_icmp H d9_37 (py := 48) (pc' := 40) q_lt (by decide) rfl (fun c37 => ?_) (fun c37 => ?_)
  · exact z48 H
  · refine s_iinc H d9_40 rfl (u := (-8 : Int32)) (by decide) (L' := fun z => #[.val (.int i), .val (.int z)]) (fun _ => rfl) (pc' := 43) rfl (fun v1 h_v1 => ?_)
    refine s_iloadn H d9_43 rfl (pc' := 44) rfl ?_
    refine s_bipush H d9_44 (z := (8 : Int32)) (by decide) (pc' := 46) rfl ?_
    refine s_iushr H d9_46 (pc' := 47) rfl ?_
    refine s_istoren H d9_47 (L' := fun z => #[.val (.int z), .val (.int v1)]) (fun _ => rfl) (pc' := 48) rfl (fun v2 h_v2 => ?_)
    exact z48 H
set_option maxRecDepth 65536 in
set_option maxHeartbeats 40000000 in
theorem met_zz {Z : State} (HT : Tb Z) {F : Hp} (i : Int32)  : Met Z y_9 jdk_33_method_47_code 2 (some .int) ({ frames := 0, cells := 0, slots := 0, locals := 0 } : Room) [(.int i)] (F) (fun v M' => ∃ z : Int32, v = some (.int z) ∧ M' = F) := by
  refine Met.of HT pl_9 (Ls := #[.val (.int i), .unset]) (fun m => by first | (simp [entryFrame, mkF, argsToLocals, Value.category]; done) | rfl) (fun k H => ?_)
  refine s_iloadn H d9_0 rfl (pc' := 1) rfl ?_
  refine s_if H d9_1 (py := 15) (pc' := 4) z_gt (by decide) rfl (fun c1 => ?_) (fun c1 => ?_)
  · refine s_bipush H d9_15 (z := (31 : Int32)) (by decide) (pc' := 17) rfl ?_
    refine s_istoren H d9_17 (L' := fun z => #[.val (.int i), .val (.int z)]) (fun _ => rfl) (pc' := 18) rfl (fun z0 hz => ?_)
    subst z0
    refine s_iloadn H d9_18 rfl (pc' := 19) rfl ?_
    refine s_ldcw H d9_19 (mem (i := 69) rfl) (pc' := 22) rfl ?_
    refine s_icmp H d9_22 (py := 33) (pc' := 25) q_lt (by decide) rfl (fun c22 => ?_) (fun c22 => ?_)
    · exact z33 H
    · refine s_iinc H d9_25 rfl (u := (-16 : Int32)) (by decide) (L' := fun z => #[.val (.int i), .val (.int z)]) (fun _ => rfl) (pc' := 28) rfl (fun v1 h_v1 => ?_)
      refine s_iloadn H d9_28 rfl (pc' := 29) rfl ?_
      refine s_bipush H d9_29 (z := (16 : Int32)) (by decide) (pc' := 31) rfl ?_
      refine s_iushr H d9_31 (pc' := 32) rfl ?_
      refine s_istoren H d9_32 (L' := fun z => #[.val (.int z), .val (.int v1)]) (fun _ => rfl) (pc' := 33) rfl (fun v2 h_v2 => ?_)
      exact z33 H
  · refine s_iloadn H d9_4 rfl (pc' := 5) rfl ?_
    refine s_if H d9_5 (py := 13) (pc' := 8) z_ne (by decide) rfl (fun c5 => ?_) (fun c5 => ?_)
    · refine s_iconst H d9_13 (z := (0 : Int32)) (by decide) (pc' := 14) rfl ?_
      exact s_iret H d9_14 rfl (Or.inl rfl) (by decide) (by decide) (⟨_, rfl, rfl⟩)
    · refine s_bipush H d9_8 (z := (32 : Int32)) (by decide) (pc' := 10) rfl ?_
      refine s_goto H d9_10 (pc' := 14) (by decide) ?_
      exact s_iret H d9_14 rfl (Or.inl rfl) (by decide) (by decide) (⟨_, rfl, rfl⟩)
set_option maxRecDepth 65536 in
set_option maxHeartbeats 40000000 in
theorem t74 {Z : State} {k : Cx} {F : Hp} {i n : Int32} (H : Ok Z k ({ frames := 0, cells := 0, slots := 0, locals := 0 } : Room) (fun v M' => ∃ z : Int32, v = some (.int z) ∧ M' = F) y_7 jdk_33_method_48_code 2 (some .int))  : Go Z k 0 0 (F) 74 #[.val (.int i), .val (.int n)] [] := by
  refine s_iloadn H d7_74 rfl (pc' := 75) rfl ?_
  refine s_iloadn H d7_75 rfl (pc' := 76) rfl ?_
  refine s_iconst H d7_76 (z := (1 : Int32)) (by decide) (pc' := 77) rfl ?_
  refine s_iushr H d7_77 (pc' := 78) rfl ?_
  refine s_iadd H d7_78 (pc' := 79) rfl ?_
  exact s_iret H d7_79 rfl (Or.inl rfl) (by decide) (by decide) (⟨_, rfl, rfl⟩)
set_option maxRecDepth 65536 in
set_option maxHeartbeats 40000000 in
theorem t62 {Z : State} {k : Cx} {F : Hp} {i n : Int32} (H : Ok Z k ({ frames := 0, cells := 0, slots := 0, locals := 0 } : Room) (fun v M' => ∃ z : Int32, v = some (.int z) ∧ M' = F) y_7 jdk_33_method_48_code 2 (some .int))  : Go Z k 0 0 (F) 62 #[.val (.int i), .val (.int n)] [] := by
  refine s_iloadn H d7_62 rfl (pc' := 63) rfl ?_
  refine s_iconst H d7_63 (z := (4 : Int32)) (by decide) (pc' := 64) rfl ?_
  refine s_icmp H d7_64 (py := 74) (pc' := 67) q_le (by decide) rfl (fun c64 => ?_) (fun c64 => ?_)
  · exact t74 H
  · refine s_iinc H d7_67 rfl (u := (2 : Int32)) (by decide) (L' := fun z => #[.val (.int i), .val (.int z)]) (fun _ => rfl) (pc' := 70) rfl (fun v1 h_v1 => ?_)
    refine s_iloadn H d7_70 rfl (pc' := 71) rfl ?_
    refine s_iconst H d7_71 (z := (2 : Int32)) (by decide) (pc' := 72) rfl ?_
    refine s_iushr H d7_72 (pc' := 73) rfl ?_
    refine s_istoren H d7_73 (L' := fun z => #[.val (.int z), .val (.int v1)]) (fun _ => rfl) (pc' := 74) rfl (fun v2 h_v2 => ?_)
    exact t74 H
set_option maxRecDepth 65536 in
set_option maxHeartbeats 40000000 in
theorem t49 {Z : State} {k : Cx} {F : Hp} {i n : Int32} (H : Ok Z k ({ frames := 0, cells := 0, slots := 0, locals := 0 } : Room) (fun v M' => ∃ z : Int32, v = some (.int z) ∧ M' = F) y_7 jdk_33_method_48_code 2 (some .int))  : Go Z k 0 0 (F) 49 #[.val (.int i), .val (.int n)] [] := by
  refine s_iloadn H d7_49 rfl (pc' := 50) rfl ?_
  refine s_bipush H d7_50 (z := (16 : Int32)) (by decide) (pc' := 52) rfl ?_
  refine s_icmp H d7_52 (py := 62) (pc' := 55) q_le (by decide) rfl (fun c52 => ?_) (fun c52 => ?_)
  · exact t62 H
  · refine s_iinc H d7_55 rfl (u := (4 : Int32)) (by decide) (L' := fun z => #[.val (.int i), .val (.int z)]) (fun _ => rfl) (pc' := 58) rfl (fun v1 h_v1 => ?_)
    refine s_iloadn H d7_58 rfl (pc' := 59) rfl ?_
    refine s_iconst H d7_59 (z := (4 : Int32)) (by decide) (pc' := 60) rfl ?_
    refine s_iushr H d7_60 (pc' := 61) rfl ?_
    refine s_istoren H d7_61 (L' := fun z => #[.val (.int z), .val (.int v1)]) (fun _ => rfl) (pc' := 62) rfl (fun v2 h_v2 => ?_)
    exact t62 H
set_option maxRecDepth 65536 in
set_option maxHeartbeats 40000000 in
theorem t34 {Z : State} {k : Cx} {F : Hp} {i n : Int32} (H : Ok Z k ({ frames := 0, cells := 0, slots := 0, locals := 0 } : Room) (fun v M' => ∃ z : Int32, v = some (.int z) ∧ M' = F) y_7 jdk_33_method_48_code 2 (some .int))  : Go Z k 0 0 (F) 34 #[.val (.int i), .val (.int n)] [] := by
  refine s_iloadn H d7_34 rfl (pc' := 35) rfl ?_
  refine s_sipush H d7_35 (z := (256 : Int32)) (by decide) (pc' := 38) rfl ?_
  refine s_icmp H d7_38 (py := 49) (pc' := 41) q_le (by decide) rfl (fun c38 => ?_) (fun c38 => ?_)
  · exact t49 H
  · refine s_iinc H d7_41 rfl (u := (8 : Int32)) (by decide) (L' := fun z => #[.val (.int i), .val (.int z)]) (fun _ => rfl) (pc' := 44) rfl (fun v1 h_v1 => ?_)
    refine s_iloadn H d7_44 rfl (pc' := 45) rfl ?_
    refine s_bipush H d7_45 (z := (8 : Int32)) (by decide) (pc' := 47) rfl ?_
    refine s_iushr H d7_47 (pc' := 48) rfl ?_
    refine s_istoren H d7_48 (L' := fun z => #[.val (.int z), .val (.int v1)]) (fun _ => rfl) (pc' := 49) rfl (fun v2 h_v2 => ?_)
    exact t49 H
set_option maxRecDepth 65536 in
set_option maxHeartbeats 40000000 in
theorem met_tz {Z : State} (HT : Tb Z) {F : Hp} (i : Int32)  : Met Z y_7 jdk_33_method_48_code 2 (some .int) ({ frames := 0, cells := 0, slots := 0, locals := 0 } : Room) [(.int i)] (F) (fun v M' => ∃ z : Int32, v = some (.int z) ∧ M' = F) := by
  refine Met.of HT pl_7 (Ls := #[.val (.int i), .unset]) (fun m => by first | (simp [entryFrame, mkF, argsToLocals, Value.category]; done) | rfl) (fun k H => ?_)
  refine s_iloadn H d7_0 rfl (pc' := 1) rfl ?_
  refine s_iconst H d7_1 (z := (-1 : Int32)) (by decide) (pc' := 2) rfl ?_
  refine s_ixor H d7_2 (pc' := 3) rfl ?_
  refine s_iloadn H d7_3 rfl (pc' := 4) rfl ?_
  refine s_iconst H d7_4 (z := (1 : Int32)) (by decide) (pc' := 5) rfl ?_
  refine s_isub H d7_5 (pc' := 6) rfl ?_
  refine s_iand H d7_6 (pc' := 7) rfl ?_
  refine s_istoren H d7_7 (L' := fun z => #[.val (.int z), .unset]) (fun _ => rfl) (pc' := 8) rfl (fun v1 h_v1 => ?_)
  refine s_iloadn H d7_8 rfl (pc' := 9) rfl ?_
  refine s_if H d7_9 (py := 17) (pc' := 12) z_gt (by decide) rfl (fun c9 => ?_) (fun c9 => ?_)
  · refine s_iconst H d7_17 (z := (1 : Int32)) (by decide) (pc' := 18) rfl ?_
    refine s_istoren H d7_18 (L' := fun z => #[.val (.int v1), .val (.int z)]) (fun _ => rfl) (pc' := 19) rfl (fun z0 hz => ?_)
    subst z0
    refine s_iloadn H d7_19 rfl (pc' := 20) rfl ?_
    refine s_ldcw H d7_20 (mem (i := 69) rfl) (pc' := 23) rfl ?_
    refine s_icmp H d7_23 (py := 34) (pc' := 26) q_le (by decide) rfl (fun c23 => ?_) (fun c23 => ?_)
    · exact t34 H
    · refine s_iinc H d7_26 rfl (u := (16 : Int32)) (by decide) (L' := fun z => #[.val (.int v1), .val (.int z)]) (fun _ => rfl) (pc' := 29) rfl (fun v2 h_v2 => ?_)
      refine s_iloadn H d7_29 rfl (pc' := 30) rfl ?_
      refine s_bipush H d7_30 (z := (16 : Int32)) (by decide) (pc' := 32) rfl ?_
      refine s_iushr H d7_32 (pc' := 33) rfl ?_
      refine s_istoren H d7_33 (L' := fun z => #[.val (.int z), .val (.int v2)]) (fun _ => rfl) (pc' := 34) rfl (fun v3 h_v3 => ?_)
      exact t34 H
  · refine s_iloadn H d7_12 rfl (pc' := 13) rfl ?_
    refine s_bipush H d7_13 (z := (32 : Int32)) (by decide) (pc' := 15) rfl ?_
    refine s_iand H d7_15 (pc' := 16) rfl ?_
    exact s_iret H d7_16 rfl (Or.inl rfl) (by decide) (by decide) (⟨_, rfl, rfl⟩)
set_option maxRecDepth 65536 in
set_option maxHeartbeats 40000000 in
theorem met_max {Z : State} (HT : Tb Z) {F : Hp} (a b : Int32)  : Met Z y_8 jdk_29_method_65_code 2 (some .int) ({ frames := 0, cells := 0, slots := 0, locals := 0 } : Room) [(.int a), (.int b)] (F) (fun v M' => ∃ r : Int32, r.toInt = max a.toInt b.toInt ∧ v = some (.int r) ∧ M' = F) := by
  refine Met.of HT pl_8 (Ls := #[.val (.int a), .val (.int b)]) (fun m => by first | (simp [entryFrame, mkF, argsToLocals, Value.category]; done) | rfl) (fun k H => ?_)
  refine s_iloadn H d8_0 rfl (pc' := 1) rfl ?_
  refine s_iloadn H d8_1 rfl (pc' := 2) rfl ?_
  refine s_icmp H d8_2 (py := 9) (pc' := 5) q_lt (by decide) rfl (fun c2 => ?_) (fun c2 => ?_)
  · refine s_iloadn H d8_9 rfl (pc' := 10) rfl ?_
    exact s_iret H d8_10 rfl (Or.inl rfl) (by decide) (by decide) (⟨b, by rw [Int32.lt_iff_toInt_lt] at c2; omega, rfl, rfl⟩)
  · refine s_iloadn H d8_5 rfl (pc' := 6) rfl ?_
    refine s_goto H d8_6 (pc' := 10) (by decide) ?_
    exact s_iret H d8_10 rfl (Or.inl rfl) (by decide) (by decide) (⟨a, by rw [Int32.lt_iff_toInt_lt] at c2; omega, rfl, rfl⟩)
set_option maxRecDepth 65536 in
set_option maxHeartbeats 40000000 in
theorem met_ly {Z : State} (HT : Tb Z) {F : Hp} (la : Addr) (w pl : Int32)  : Met Z y_6 prog_51_method_1_code 3 none ({ frames := 1, cells := 0, slots := 0, locals := 15 } : Room) [(.ref la), (.int w), (.int pl)] ((la, Obj Z "com/example/workflow_net_analyzer/workflownetanalyzer/statespace/MarkingTable$Layout" [("com/example/workflow_net_analyzer/workflownetanalyzer/statespace/MarkingTable$Layout", "width", "I", (.int (0 : Int32))), ("com/example/workflow_net_analyzer/workflownetanalyzer/statespace/MarkingTable$Layout", "widthShift", "I", (.int (0 : Int32))), ("com/example/workflow_net_analyzer/workflownetanalyzer/statespace/MarkingTable$Layout", "longShift", "I", (.int (0 : Int32))), ("com/example/workflow_net_analyzer/workflownetanalyzer/statespace/MarkingTable$Layout", "mask", "J", (.long (0 : Int64))), ("com/example/workflow_net_analyzer/workflownetanalyzer/statespace/MarkingTable$Layout", "stride", "I", (.int (0 : Int32))), ("com/example/workflow_net_analyzer/workflownetanalyzer/statespace/MarkingTable$Layout", "chunkShift", "I", (.int (0 : Int32)))]) :: F) (fun v M' => ∃ a b c d : Int32, v = none ∧ M' = ((la, Obj Z "com/example/workflow_net_analyzer/workflownetanalyzer/statespace/MarkingTable$Layout" [("com/example/workflow_net_analyzer/workflownetanalyzer/statespace/MarkingTable$Layout", "width", "I", (.int w)), ("com/example/workflow_net_analyzer/workflownetanalyzer/statespace/MarkingTable$Layout", "widthShift", "I", (.int a)), ("com/example/workflow_net_analyzer/workflownetanalyzer/statespace/MarkingTable$Layout", "longShift", "I", (.int b)), ("com/example/workflow_net_analyzer/workflownetanalyzer/statespace/MarkingTable$Layout", "mask", "J", (.long (mk w))), ("com/example/workflow_net_analyzer/workflownetanalyzer/statespace/MarkingTable$Layout", "stride", "I", (.int c)), ("com/example/workflow_net_analyzer/workflownetanalyzer/statespace/MarkingTable$Layout", "chunkShift", "I", (.int d))]) :: F)) := by
  refine Met.of HT pl_6 (Ls := #[.val (.ref la), .val (.int w), .val (.int pl)]) (fun m => by first | (simp [entryFrame, mkF, argsToLocals, Value.category]; done) | rfl) (fun k H => ?_)
  refine s_aloadn H d6_0 rfl rfl (pc' := 1) rfl ?_
  refine s_objinit H d6_1 (mem (i := 46) rfl) (mem (i := 7) rfl) (mem (i := 8) rfl) rfl (by decide) (Nat.le_of_ble_eq_true rfl) (pc' := 4) rfl ?_
  refine s_aloadn H d6_4 rfl rfl (pc' := 5) rfl ?_
  refine s_iloadn H d6_5 rfl (pc' := 6) rfl ?_
  refine s_putf H d6_6 (mem (i := 47) rfl) (Or.inr ⟨(mem (i := 48) rfl), rfl, rfl⟩) (mem (i := 41) rfl) (ty := .int) (by decide) rfl rfl (i := 0) (j := 0) rfl rfl (pc' := 9) rfl ?_
  show Go Z k 0 0 ((la, Obj Z "com/example/workflow_net_analyzer/workflownetanalyzer/statespace/MarkingTable$Layout" [("com/example/workflow_net_analyzer/workflownetanalyzer/statespace/MarkingTable$Layout", "width", "I", (.int w)), ("com/example/workflow_net_analyzer/workflownetanalyzer/statespace/MarkingTable$Layout", "widthShift", "I", (.int (0 : Int32))), ("com/example/workflow_net_analyzer/workflownetanalyzer/statespace/MarkingTable$Layout", "longShift", "I", (.int (0 : Int32))), ("com/example/workflow_net_analyzer/workflownetanalyzer/statespace/MarkingTable$Layout", "mask", "J", (.long (0 : Int64))), ("com/example/workflow_net_analyzer/workflownetanalyzer/statespace/MarkingTable$Layout", "stride", "I", (.int (0 : Int32))), ("com/example/workflow_net_analyzer/workflownetanalyzer/statespace/MarkingTable$Layout", "chunkShift", "I", (.int (0 : Int32)))]) :: F) 9 #[.val (.ref la), .val (.int w), .val (.int pl)] []
  refine s_aloadn H d6_9 rfl rfl (pc' := 10) rfl ?_
  refine s_iloadn H d6_10 rfl (pc' := 11) rfl ?_
  refine s_static H (met_tz H.tb w) d6_11 (mem (i := 49) rfl) (mem (i := 50) rfl) (mem (i := 51) rfl) (mem (i := 52) rfl) (by decide) pd_7 rfl (rest := [(.ref la)]) rfl rfl (by decide) (Nat.le_of_ble_eq_true rfl) (cn' := 0) (sn' := 0) rfl rfl (by decide) (by decide) (pc' := 14) rfl (fun v0 M0 hq => ?_)
  obtain ⟨e1, rfl, hm0⟩ := hq
  subst M0
  show Go Z k 0 0 ((la, Obj Z "com/example/workflow_net_analyzer/workflownetanalyzer/statespace/MarkingTable$Layout" [("com/example/workflow_net_analyzer/workflownetanalyzer/statespace/MarkingTable$Layout", "width", "I", (.int w)), ("com/example/workflow_net_analyzer/workflownetanalyzer/statespace/MarkingTable$Layout", "widthShift", "I", (.int (0 : Int32))), ("com/example/workflow_net_analyzer/workflownetanalyzer/statespace/MarkingTable$Layout", "longShift", "I", (.int (0 : Int32))), ("com/example/workflow_net_analyzer/workflownetanalyzer/statespace/MarkingTable$Layout", "mask", "J", (.long (0 : Int64))), ("com/example/workflow_net_analyzer/workflownetanalyzer/statespace/MarkingTable$Layout", "stride", "I", (.int (0 : Int32))), ("com/example/workflow_net_analyzer/workflownetanalyzer/statespace/MarkingTable$Layout", "chunkShift", "I", (.int (0 : Int32)))]) :: F) 14 #[.val (.ref la), .val (.int w), .val (.int pl)] [(.int e1), (.ref la)]
  refine s_putf H d6_14 (mem (i := 53) rfl) (Or.inr ⟨(mem (i := 54) rfl), rfl, rfl⟩) (mem (i := 41) rfl) (ty := .int) (by decide) rfl rfl (i := 0) (j := 1) rfl rfl (pc' := 17) rfl ?_
  show Go Z k 0 0 ((la, Obj Z "com/example/workflow_net_analyzer/workflownetanalyzer/statespace/MarkingTable$Layout" [("com/example/workflow_net_analyzer/workflownetanalyzer/statespace/MarkingTable$Layout", "width", "I", (.int w)), ("com/example/workflow_net_analyzer/workflownetanalyzer/statespace/MarkingTable$Layout", "widthShift", "I", (.int e1)), ("com/example/workflow_net_analyzer/workflownetanalyzer/statespace/MarkingTable$Layout", "longShift", "I", (.int (0 : Int32))), ("com/example/workflow_net_analyzer/workflownetanalyzer/statespace/MarkingTable$Layout", "mask", "J", (.long (0 : Int64))), ("com/example/workflow_net_analyzer/workflownetanalyzer/statespace/MarkingTable$Layout", "stride", "I", (.int (0 : Int32))), ("com/example/workflow_net_analyzer/workflownetanalyzer/statespace/MarkingTable$Layout", "chunkShift", "I", (.int (0 : Int32)))]) :: F) 17 #[.val (.ref la), .val (.int w), .val (.int pl)] []
  refine s_aloadn H d6_17 rfl rfl (pc' := 18) rfl ?_
  refine s_bipush H d6_18 (z := (6 : Int32)) (by decide) (pc' := 20) rfl ?_
  refine s_aloadn H d6_20 rfl rfl (pc' := 21) rfl ?_
  refine s_getf H d6_21 (mem (i := 53) rfl) (i := 0) (j := 1) rfl rfl (pc' := 24) rfl ?_
  refine s_isub H d6_24 (pc' := 25) rfl ?_
  refine s_putf H d6_25 (mem (i := 55) rfl) (Or.inr ⟨(mem (i := 56) rfl), rfl, rfl⟩) (mem (i := 41) rfl) (ty := .int) (by decide) rfl rfl (i := 0) (j := 2) rfl rfl (pc' := 28) rfl ?_
  show Go Z k 0 0 ((la, Obj Z "com/example/workflow_net_analyzer/workflownetanalyzer/statespace/MarkingTable$Layout" [("com/example/workflow_net_analyzer/workflownetanalyzer/statespace/MarkingTable$Layout", "width", "I", (.int w)), ("com/example/workflow_net_analyzer/workflownetanalyzer/statespace/MarkingTable$Layout", "widthShift", "I", (.int e1)), ("com/example/workflow_net_analyzer/workflownetanalyzer/statespace/MarkingTable$Layout", "longShift", "I", (.int ((6 : Int32) - e1))), ("com/example/workflow_net_analyzer/workflownetanalyzer/statespace/MarkingTable$Layout", "mask", "J", (.long (0 : Int64))), ("com/example/workflow_net_analyzer/workflownetanalyzer/statespace/MarkingTable$Layout", "stride", "I", (.int (0 : Int32))), ("com/example/workflow_net_analyzer/workflownetanalyzer/statespace/MarkingTable$Layout", "chunkShift", "I", (.int (0 : Int32)))]) :: F) 28 #[.val (.ref la), .val (.int w), .val (.int pl)] []
  refine s_aloadn H d6_28 rfl rfl (pc' := 29) rfl ?_
  refine s_iloadn H d6_29 rfl (pc' := 30) rfl ?_
  refine s_bipush H d6_30 (z := (64 : Int32)) (by decide) (pc' := 32) rfl ?_
  refine s_icmp H d6_32 (py := 41) (pc' := 35) q_ne (by decide) rfl (fun c32 => ?_) (fun c32 => ?_)
  · refine s_lconst H d6_41 (z := (1 : Int64)) (by decide) (pc' := 42) rfl ?_
    refine s_iloadn H d6_42 rfl (pc' := 43) rfl ?_
    refine s_lshl H d6_43 (pc' := 44) rfl ?_
    refine s_lconst H d6_44 (z := (1 : Int64)) (by decide) (pc' := 45) rfl ?_
    refine s_lsub H d6_45 (pc' := 46) rfl ?_
    rw [show ((1 : Int64) <<< (w &&& 0x3f).toInt64) - (1 : Int64) = mk w from by unfold mk; rw [if_neg c32]]
    refine s_putf H d6_46 (mem (i := 57) rfl) (Or.inr ⟨(mem (i := 58) rfl), rfl, rfl⟩) (mem (i := 41) rfl) (ty := .long) (by decide) rfl rfl (i := 0) (j := 3) rfl rfl (pc' := 49) rfl ?_
    show Go Z k 0 0 ((la, Obj Z "com/example/workflow_net_analyzer/workflownetanalyzer/statespace/MarkingTable$Layout" [("com/example/workflow_net_analyzer/workflownetanalyzer/statespace/MarkingTable$Layout", "width", "I", (.int w)), ("com/example/workflow_net_analyzer/workflownetanalyzer/statespace/MarkingTable$Layout", "widthShift", "I", (.int e1)), ("com/example/workflow_net_analyzer/workflownetanalyzer/statespace/MarkingTable$Layout", "longShift", "I", (.int ((6 : Int32) - e1))), ("com/example/workflow_net_analyzer/workflownetanalyzer/statespace/MarkingTable$Layout", "mask", "J", (.long (mk w))), ("com/example/workflow_net_analyzer/workflownetanalyzer/statespace/MarkingTable$Layout", "stride", "I", (.int (0 : Int32))), ("com/example/workflow_net_analyzer/workflownetanalyzer/statespace/MarkingTable$Layout", "chunkShift", "I", (.int (0 : Int32)))]) :: F) 49 #[.val (.ref la), .val (.int w), .val (.int pl)] []
    refine s_aloadn H d6_49 rfl rfl (pc' := 50) rfl ?_
    refine s_iconst H d6_50 (z := (1 : Int32)) (by decide) (pc' := 51) rfl ?_
    refine s_iloadn H d6_51 rfl (pc' := 52) rfl ?_
    refine s_iconst H d6_52 (z := (1 : Int32)) (by decide) (pc' := 53) rfl ?_
    refine s_aloadn H d6_53 rfl rfl (pc' := 54) rfl ?_
    refine s_getf H d6_54 (mem (i := 55) rfl) (i := 0) (j := 2) rfl rfl (pc' := 57) rfl ?_
    refine s_ishl H d6_57 (pc' := 58) rfl ?_
    refine s_iadd H d6_58 (pc' := 59) rfl ?_
    refine s_iconst H d6_59 (z := (1 : Int32)) (by decide) (pc' := 60) rfl ?_
    refine s_isub H d6_60 (pc' := 61) rfl ?_
    refine s_aloadn H d6_61 rfl rfl (pc' := 62) rfl ?_
    refine s_getf H d6_62 (mem (i := 55) rfl) (i := 0) (j := 2) rfl rfl (pc' := 65) rfl ?_
    refine s_iushr H d6_65 (pc' := 66) rfl ?_
    refine s_static H (met_max H.tb (1 : Int32) ((((pl + ((1 : Int32) <<< (((6 : Int32) - e1) &&& 31))) - (1 : Int32)).toUInt32 >>> (((6 : Int32) - e1) &&& 31).toUInt32).toInt32)) d6_66 (mem (i := 59) rfl) (mem (i := 60) rfl) (mem (i := 61) rfl) (mem (i := 62) rfl) (by decide) pd_8 rfl (rest := [(.ref la)]) rfl rfl (by decide) (Nat.le_of_ble_eq_true rfl) (cn' := 0) (sn' := 0) rfl rfl (by decide) (by decide) (pc' := 69) rfl (fun v0 M0 hq => ?_)
    obtain ⟨r2, hr2, rfl, hm0⟩ := hq
    subst M0
    show Go Z k 0 0 ((la, Obj Z "com/example/workflow_net_analyzer/workflownetanalyzer/statespace/MarkingTable$Layout" [("com/example/workflow_net_analyzer/workflownetanalyzer/statespace/MarkingTable$Layout", "width", "I", (.int w)), ("com/example/workflow_net_analyzer/workflownetanalyzer/statespace/MarkingTable$Layout", "widthShift", "I", (.int e1)), ("com/example/workflow_net_analyzer/workflownetanalyzer/statespace/MarkingTable$Layout", "longShift", "I", (.int ((6 : Int32) - e1))), ("com/example/workflow_net_analyzer/workflownetanalyzer/statespace/MarkingTable$Layout", "mask", "J", (.long (mk w))), ("com/example/workflow_net_analyzer/workflownetanalyzer/statespace/MarkingTable$Layout", "stride", "I", (.int (0 : Int32))), ("com/example/workflow_net_analyzer/workflownetanalyzer/statespace/MarkingTable$Layout", "chunkShift", "I", (.int (0 : Int32)))]) :: F) 69 #[.val (.ref la), .val (.int w), .val (.int pl)] [(.int r2), (.ref la)]
    refine s_putf H d6_69 (mem (i := 63) rfl) (Or.inr ⟨(mem (i := 64) rfl), rfl, rfl⟩) (mem (i := 41) rfl) (ty := .int) (by decide) rfl rfl (i := 0) (j := 4) rfl rfl (pc' := 72) rfl ?_
    show Go Z k 0 0 ((la, Obj Z "com/example/workflow_net_analyzer/workflownetanalyzer/statespace/MarkingTable$Layout" [("com/example/workflow_net_analyzer/workflownetanalyzer/statespace/MarkingTable$Layout", "width", "I", (.int w)), ("com/example/workflow_net_analyzer/workflownetanalyzer/statespace/MarkingTable$Layout", "widthShift", "I", (.int e1)), ("com/example/workflow_net_analyzer/workflownetanalyzer/statespace/MarkingTable$Layout", "longShift", "I", (.int ((6 : Int32) - e1))), ("com/example/workflow_net_analyzer/workflownetanalyzer/statespace/MarkingTable$Layout", "mask", "J", (.long (mk w))), ("com/example/workflow_net_analyzer/workflownetanalyzer/statespace/MarkingTable$Layout", "stride", "I", (.int r2)), ("com/example/workflow_net_analyzer/workflownetanalyzer/statespace/MarkingTable$Layout", "chunkShift", "I", (.int (0 : Int32)))]) :: F) 72 #[.val (.ref la), .val (.int w), .val (.int pl)] []
    refine s_aloadn H d6_72 rfl rfl (pc' := 73) rfl ?_
    refine s_bipush H d6_73 (z := (31 : Int32)) (by decide) (pc' := 75) rfl ?_
    refine s_iconst H d6_75 (z := (1 : Int32)) (by decide) (pc' := 76) rfl ?_
    refine s_ldc H d6_76 (mem (i := 65) rfl) (pc' := 78) rfl ?_
    refine s_aloadn H d6_78 rfl rfl (pc' := 79) rfl ?_
    refine s_getf H d6_79 (mem (i := 63) rfl) (i := 0) (j := 4) rfl rfl (pc' := 82) rfl ?_
    refine s_idiv H d6_82 (fun q => by have := hr2; rw [q, show (1 : Int32).toInt = 1 from by decide, show (0 : Int32).toInt = 0 from by decide] at this; omega) (pc' := 83) rfl ?_
    refine s_static H (met_max H.tb (1 : Int32) ((65536 : Int32) / r2)) d6_83 (mem (i := 59) rfl) (mem (i := 60) rfl) (mem (i := 61) rfl) (mem (i := 62) rfl) (by decide) pd_8 rfl (rest := [(.int (31 : Int32)), (.ref la)]) rfl rfl (by decide) (Nat.le_of_ble_eq_true rfl) (cn' := 0) (sn' := 0) rfl rfl (by decide) (by decide) (pc' := 86) rfl (fun v0 M0 hq => ?_)
    obtain ⟨r3, hr3, rfl, hm0⟩ := hq
    subst M0
    show Go Z k 0 0 ((la, Obj Z "com/example/workflow_net_analyzer/workflownetanalyzer/statespace/MarkingTable$Layout" [("com/example/workflow_net_analyzer/workflownetanalyzer/statespace/MarkingTable$Layout", "width", "I", (.int w)), ("com/example/workflow_net_analyzer/workflownetanalyzer/statespace/MarkingTable$Layout", "widthShift", "I", (.int e1)), ("com/example/workflow_net_analyzer/workflownetanalyzer/statespace/MarkingTable$Layout", "longShift", "I", (.int ((6 : Int32) - e1))), ("com/example/workflow_net_analyzer/workflownetanalyzer/statespace/MarkingTable$Layout", "mask", "J", (.long (mk w))), ("com/example/workflow_net_analyzer/workflownetanalyzer/statespace/MarkingTable$Layout", "stride", "I", (.int r2)), ("com/example/workflow_net_analyzer/workflownetanalyzer/statespace/MarkingTable$Layout", "chunkShift", "I", (.int (0 : Int32)))]) :: F) 86 #[.val (.ref la), .val (.int w), .val (.int pl)] [(.int r3), (.int (31 : Int32)), (.ref la)]
    refine s_static H (met_zz H.tb r3) d6_86 (mem (i := 66) rfl) (mem (i := 67) rfl) (mem (i := 51) rfl) (mem (i := 68) rfl) (by decide) pd_9 rfl (rest := [(.int (31 : Int32)), (.ref la)]) rfl rfl (by decide) (Nat.le_of_ble_eq_true rfl) (cn' := 0) (sn' := 0) rfl rfl (by decide) (by decide) (pc' := 89) rfl (fun v0 M0 hq => ?_)
    obtain ⟨e4, rfl, hm0⟩ := hq
    subst M0
    show Go Z k 0 0 ((la, Obj Z "com/example/workflow_net_analyzer/workflownetanalyzer/statespace/MarkingTable$Layout" [("com/example/workflow_net_analyzer/workflownetanalyzer/statespace/MarkingTable$Layout", "width", "I", (.int w)), ("com/example/workflow_net_analyzer/workflownetanalyzer/statespace/MarkingTable$Layout", "widthShift", "I", (.int e1)), ("com/example/workflow_net_analyzer/workflownetanalyzer/statespace/MarkingTable$Layout", "longShift", "I", (.int ((6 : Int32) - e1))), ("com/example/workflow_net_analyzer/workflownetanalyzer/statespace/MarkingTable$Layout", "mask", "J", (.long (mk w))), ("com/example/workflow_net_analyzer/workflownetanalyzer/statespace/MarkingTable$Layout", "stride", "I", (.int r2)), ("com/example/workflow_net_analyzer/workflownetanalyzer/statespace/MarkingTable$Layout", "chunkShift", "I", (.int (0 : Int32)))]) :: F) 89 #[.val (.ref la), .val (.int w), .val (.int pl)] [(.int e4), (.int (31 : Int32)), (.ref la)]
    refine s_isub H d6_89 (pc' := 90) rfl ?_
    refine s_putf H d6_90 (mem (i := 70) rfl) (Or.inr ⟨(mem (i := 71) rfl), rfl, rfl⟩) (mem (i := 41) rfl) (ty := .int) (by decide) rfl rfl (i := 0) (j := 5) rfl rfl (pc' := 93) rfl ?_
    show Go Z k 0 0 ((la, Obj Z "com/example/workflow_net_analyzer/workflownetanalyzer/statespace/MarkingTable$Layout" [("com/example/workflow_net_analyzer/workflownetanalyzer/statespace/MarkingTable$Layout", "width", "I", (.int w)), ("com/example/workflow_net_analyzer/workflownetanalyzer/statespace/MarkingTable$Layout", "widthShift", "I", (.int e1)), ("com/example/workflow_net_analyzer/workflownetanalyzer/statespace/MarkingTable$Layout", "longShift", "I", (.int ((6 : Int32) - e1))), ("com/example/workflow_net_analyzer/workflownetanalyzer/statespace/MarkingTable$Layout", "mask", "J", (.long (mk w))), ("com/example/workflow_net_analyzer/workflownetanalyzer/statespace/MarkingTable$Layout", "stride", "I", (.int r2)), ("com/example/workflow_net_analyzer/workflownetanalyzer/statespace/MarkingTable$Layout", "chunkShift", "I", (.int ((31 : Int32) - e4)))]) :: F) 93 #[.val (.ref la), .val (.int w), .val (.int pl)] []
    exact s_vret H d6_93 (by decide) (by decide) (⟨_, _, _, _, rfl, rfl⟩)
  · refine s_ldc2 H d6_35 (mem (i := 93) rfl) (pc' := 38) rfl ?_
    refine s_goto H d6_38 (pc' := 46) (by decide) ?_
    rw [show (-1 : Int64) = mk w from by unfold mk; rw [if_pos (Classical.not_not.mp c32)]] at *
    refine s_putf H d6_46 (mem (i := 57) rfl) (Or.inr ⟨(mem (i := 58) rfl), rfl, rfl⟩) (mem (i := 41) rfl) (ty := .long) (by decide) rfl rfl (i := 0) (j := 3) rfl rfl (pc' := 49) rfl ?_
    show Go Z k 0 0 ((la, Obj Z "com/example/workflow_net_analyzer/workflownetanalyzer/statespace/MarkingTable$Layout" [("com/example/workflow_net_analyzer/workflownetanalyzer/statespace/MarkingTable$Layout", "width", "I", (.int w)), ("com/example/workflow_net_analyzer/workflownetanalyzer/statespace/MarkingTable$Layout", "widthShift", "I", (.int e1)), ("com/example/workflow_net_analyzer/workflownetanalyzer/statespace/MarkingTable$Layout", "longShift", "I", (.int ((6 : Int32) - e1))), ("com/example/workflow_net_analyzer/workflownetanalyzer/statespace/MarkingTable$Layout", "mask", "J", (.long (mk w))), ("com/example/workflow_net_analyzer/workflownetanalyzer/statespace/MarkingTable$Layout", "stride", "I", (.int (0 : Int32))), ("com/example/workflow_net_analyzer/workflownetanalyzer/statespace/MarkingTable$Layout", "chunkShift", "I", (.int (0 : Int32)))]) :: F) 49 #[.val (.ref la), .val (.int w), .val (.int pl)] []
    refine s_aloadn H d6_49 rfl rfl (pc' := 50) rfl ?_
    refine s_iconst H d6_50 (z := (1 : Int32)) (by decide) (pc' := 51) rfl ?_
    refine s_iloadn H d6_51 rfl (pc' := 52) rfl ?_
    refine s_iconst H d6_52 (z := (1 : Int32)) (by decide) (pc' := 53) rfl ?_
    refine s_aloadn H d6_53 rfl rfl (pc' := 54) rfl ?_
    refine s_getf H d6_54 (mem (i := 55) rfl) (i := 0) (j := 2) rfl rfl (pc' := 57) rfl ?_
    refine s_ishl H d6_57 (pc' := 58) rfl ?_
    refine s_iadd H d6_58 (pc' := 59) rfl ?_
    refine s_iconst H d6_59 (z := (1 : Int32)) (by decide) (pc' := 60) rfl ?_
    refine s_isub H d6_60 (pc' := 61) rfl ?_
    refine s_aloadn H d6_61 rfl rfl (pc' := 62) rfl ?_
    refine s_getf H d6_62 (mem (i := 55) rfl) (i := 0) (j := 2) rfl rfl (pc' := 65) rfl ?_
    refine s_iushr H d6_65 (pc' := 66) rfl ?_
    refine s_static H (met_max H.tb (1 : Int32) ((((pl + ((1 : Int32) <<< (((6 : Int32) - e1) &&& 31))) - (1 : Int32)).toUInt32 >>> (((6 : Int32) - e1) &&& 31).toUInt32).toInt32)) d6_66 (mem (i := 59) rfl) (mem (i := 60) rfl) (mem (i := 61) rfl) (mem (i := 62) rfl) (by decide) pd_8 rfl (rest := [(.ref la)]) rfl rfl (by decide) (Nat.le_of_ble_eq_true rfl) (cn' := 0) (sn' := 0) rfl rfl (by decide) (by decide) (pc' := 69) rfl (fun v0 M0 hq => ?_)
    obtain ⟨r5, hr5, rfl, hm0⟩ := hq
    subst M0
    show Go Z k 0 0 ((la, Obj Z "com/example/workflow_net_analyzer/workflownetanalyzer/statespace/MarkingTable$Layout" [("com/example/workflow_net_analyzer/workflownetanalyzer/statespace/MarkingTable$Layout", "width", "I", (.int w)), ("com/example/workflow_net_analyzer/workflownetanalyzer/statespace/MarkingTable$Layout", "widthShift", "I", (.int e1)), ("com/example/workflow_net_analyzer/workflownetanalyzer/statespace/MarkingTable$Layout", "longShift", "I", (.int ((6 : Int32) - e1))), ("com/example/workflow_net_analyzer/workflownetanalyzer/statespace/MarkingTable$Layout", "mask", "J", (.long (mk w))), ("com/example/workflow_net_analyzer/workflownetanalyzer/statespace/MarkingTable$Layout", "stride", "I", (.int (0 : Int32))), ("com/example/workflow_net_analyzer/workflownetanalyzer/statespace/MarkingTable$Layout", "chunkShift", "I", (.int (0 : Int32)))]) :: F) 69 #[.val (.ref la), .val (.int w), .val (.int pl)] [(.int r5), (.ref la)]
    refine s_putf H d6_69 (mem (i := 63) rfl) (Or.inr ⟨(mem (i := 64) rfl), rfl, rfl⟩) (mem (i := 41) rfl) (ty := .int) (by decide) rfl rfl (i := 0) (j := 4) rfl rfl (pc' := 72) rfl ?_
    show Go Z k 0 0 ((la, Obj Z "com/example/workflow_net_analyzer/workflownetanalyzer/statespace/MarkingTable$Layout" [("com/example/workflow_net_analyzer/workflownetanalyzer/statespace/MarkingTable$Layout", "width", "I", (.int w)), ("com/example/workflow_net_analyzer/workflownetanalyzer/statespace/MarkingTable$Layout", "widthShift", "I", (.int e1)), ("com/example/workflow_net_analyzer/workflownetanalyzer/statespace/MarkingTable$Layout", "longShift", "I", (.int ((6 : Int32) - e1))), ("com/example/workflow_net_analyzer/workflownetanalyzer/statespace/MarkingTable$Layout", "mask", "J", (.long (mk w))), ("com/example/workflow_net_analyzer/workflownetanalyzer/statespace/MarkingTable$Layout", "stride", "I", (.int r5)), ("com/example/workflow_net_analyzer/workflownetanalyzer/statespace/MarkingTable$Layout", "chunkShift", "I", (.int (0 : Int32)))]) :: F) 72 #[.val (.ref la), .val (.int w), .val (.int pl)] []
    refine s_aloadn H d6_72 rfl rfl (pc' := 73) rfl ?_
    refine s_bipush H d6_73 (z := (31 : Int32)) (by decide) (pc' := 75) rfl ?_
    refine s_iconst H d6_75 (z := (1 : Int32)) (by decide) (pc' := 76) rfl ?_
    refine s_ldc H d6_76 (mem (i := 65) rfl) (pc' := 78) rfl ?_
    refine s_aloadn H d6_78 rfl rfl (pc' := 79) rfl ?_
    refine s_getf H d6_79 (mem (i := 63) rfl) (i := 0) (j := 4) rfl rfl (pc' := 82) rfl ?_
    refine s_idiv H d6_82 (fun q => by have := hr5; rw [q, show (1 : Int32).toInt = 1 from by decide, show (0 : Int32).toInt = 0 from by decide] at this; omega) (pc' := 83) rfl ?_
    refine s_static H (met_max H.tb (1 : Int32) ((65536 : Int32) / r5)) d6_83 (mem (i := 59) rfl) (mem (i := 60) rfl) (mem (i := 61) rfl) (mem (i := 62) rfl) (by decide) pd_8 rfl (rest := [(.int (31 : Int32)), (.ref la)]) rfl rfl (by decide) (Nat.le_of_ble_eq_true rfl) (cn' := 0) (sn' := 0) rfl rfl (by decide) (by decide) (pc' := 86) rfl (fun v0 M0 hq => ?_)
    obtain ⟨r6, hr6, rfl, hm0⟩ := hq
    subst M0
    show Go Z k 0 0 ((la, Obj Z "com/example/workflow_net_analyzer/workflownetanalyzer/statespace/MarkingTable$Layout" [("com/example/workflow_net_analyzer/workflownetanalyzer/statespace/MarkingTable$Layout", "width", "I", (.int w)), ("com/example/workflow_net_analyzer/workflownetanalyzer/statespace/MarkingTable$Layout", "widthShift", "I", (.int e1)), ("com/example/workflow_net_analyzer/workflownetanalyzer/statespace/MarkingTable$Layout", "longShift", "I", (.int ((6 : Int32) - e1))), ("com/example/workflow_net_analyzer/workflownetanalyzer/statespace/MarkingTable$Layout", "mask", "J", (.long (mk w))), ("com/example/workflow_net_analyzer/workflownetanalyzer/statespace/MarkingTable$Layout", "stride", "I", (.int r5)), ("com/example/workflow_net_analyzer/workflownetanalyzer/statespace/MarkingTable$Layout", "chunkShift", "I", (.int (0 : Int32)))]) :: F) 86 #[.val (.ref la), .val (.int w), .val (.int pl)] [(.int r6), (.int (31 : Int32)), (.ref la)]
    refine s_static H (met_zz H.tb r6) d6_86 (mem (i := 66) rfl) (mem (i := 67) rfl) (mem (i := 51) rfl) (mem (i := 68) rfl) (by decide) pd_9 rfl (rest := [(.int (31 : Int32)), (.ref la)]) rfl rfl (by decide) (Nat.le_of_ble_eq_true rfl) (cn' := 0) (sn' := 0) rfl rfl (by decide) (by decide) (pc' := 89) rfl (fun v0 M0 hq => ?_)
    obtain ⟨e7, rfl, hm0⟩ := hq
    subst M0
    show Go Z k 0 0 ((la, Obj Z "com/example/workflow_net_analyzer/workflownetanalyzer/statespace/MarkingTable$Layout" [("com/example/workflow_net_analyzer/workflownetanalyzer/statespace/MarkingTable$Layout", "width", "I", (.int w)), ("com/example/workflow_net_analyzer/workflownetanalyzer/statespace/MarkingTable$Layout", "widthShift", "I", (.int e1)), ("com/example/workflow_net_analyzer/workflownetanalyzer/statespace/MarkingTable$Layout", "longShift", "I", (.int ((6 : Int32) - e1))), ("com/example/workflow_net_analyzer/workflownetanalyzer/statespace/MarkingTable$Layout", "mask", "J", (.long (mk w))), ("com/example/workflow_net_analyzer/workflownetanalyzer/statespace/MarkingTable$Layout", "stride", "I", (.int r5)), ("com/example/workflow_net_analyzer/workflownetanalyzer/statespace/MarkingTable$Layout", "chunkShift", "I", (.int (0 : Int32)))]) :: F) 89 #[.val (.ref la), .val (.int w), .val (.int pl)] [(.int e7), (.int (31 : Int32)), (.ref la)]
    refine s_isub H d6_89 (pc' := 90) rfl ?_
    refine s_putf H d6_90 (mem (i := 70) rfl) (Or.inr ⟨(mem (i := 71) rfl), rfl, rfl⟩) (mem (i := 41) rfl) (ty := .int) (by decide) rfl rfl (i := 0) (j := 5) rfl rfl (pc' := 93) rfl ?_
    show Go Z k 0 0 ((la, Obj Z "com/example/workflow_net_analyzer/workflownetanalyzer/statespace/MarkingTable$Layout" [("com/example/workflow_net_analyzer/workflownetanalyzer/statespace/MarkingTable$Layout", "width", "I", (.int w)), ("com/example/workflow_net_analyzer/workflownetanalyzer/statespace/MarkingTable$Layout", "widthShift", "I", (.int e1)), ("com/example/workflow_net_analyzer/workflownetanalyzer/statespace/MarkingTable$Layout", "longShift", "I", (.int ((6 : Int32) - e1))), ("com/example/workflow_net_analyzer/workflownetanalyzer/statespace/MarkingTable$Layout", "mask", "J", (.long (mk w))), ("com/example/workflow_net_analyzer/workflownetanalyzer/statespace/MarkingTable$Layout", "stride", "I", (.int r5)), ("com/example/workflow_net_analyzer/workflownetanalyzer/statespace/MarkingTable$Layout", "chunkShift", "I", (.int ((31 : Int32) - e7)))]) :: F) 93 #[.val (.ref la), .val (.int w), .val (.int pl)] []
    exact s_vret H d6_93 (by decide) (by decide) (⟨_, _, _, _, rfl, rfl⟩)
set_option maxRecDepth 65536 in
set_option maxHeartbeats 40000000 in
theorem met_ac {Z : State} (HT : Tb Z) {F : Hp} (p : Addr)  : Met Z y_5 jdk_22_method_1_code 1 none ({ frames := 1, cells := 0, slots := 0, locals := 12 } : Room) [(.ref p)] (F) (fun v M' => v = none ∧ M' = F) := by
  refine Met.of HT pl_5 (Ls := #[.val (.ref p)]) (fun m => by first | (simp [entryFrame, mkF, argsToLocals, Value.category]; done) | rfl) (fun k H => ?_)
  refine s_aloadn H d5_0 rfl rfl (pc' := 1) rfl ?_
  refine s_objinit H d5_1 (mem (i := 27) rfl) (mem (i := 7) rfl) (mem (i := 8) rfl) rfl (by decide) (Nat.le_of_ble_eq_true rfl) (pc' := 4) rfl ?_
  exact s_vret H d5_4 (by decide) (by decide) (⟨rfl, rfl⟩)
set_option maxRecDepth 65536 in
set_option maxHeartbeats 40000000 in
theorem met_ali {Z : State} (HT : Tb Z) {F : Hp} (p : Addr)  : Met Z y_4 jdk_39_method_1_code 1 none ({ frames := 2, cells := 0, slots := 0, locals := 24 } : Room) [(.ref p)] ((p, Obj Z "java/util/ArrayList" [("java/util/AbstractList", "modCount", "I", (.int (0 : Int32))), ("java/util/ArrayList", "elementData", "[Ljava/lang/Object;", .null)]) :: F) (fun v M' => v = none ∧ M' = ((p, Obj Z "java/util/ArrayList" [("java/util/AbstractList", "modCount", "I", (.int (0 : Int32))), ("java/util/ArrayList", "elementData", "[Ljava/lang/Object;", .null)]) :: F)) := by
  refine Met.of HT pl_4 (Ls := #[.val (.ref p)]) (fun m => by first | (simp [entryFrame, mkF, argsToLocals, Value.category]; done) | rfl) (fun k H => ?_)
  refine s_aloadn H d4_0 rfl rfl (pc' := 1) rfl ?_
  refine s_init H (met_ac H.tb p) d4_1 rfl (mem (i := 21) rfl) (mem (i := 22) rfl) (mem (i := 25) rfl) (mem (i := 26) rfl) (by decide) pd_5 rfl (rest := []) rfl rfl (by decide) (Nat.le_of_ble_eq_true rfl) (cn' := 0) (sn' := 0) rfl rfl (by decide) (by decide) (pc' := 4) rfl (fun v0 M0 hq => ?_)
  obtain ⟨rfl, hm0⟩ := hq
  subst M0
  show Go Z k 0 0 ((p, Obj Z "java/util/ArrayList" [("java/util/AbstractList", "modCount", "I", (.int (0 : Int32))), ("java/util/ArrayList", "elementData", "[Ljava/lang/Object;", .null)]) :: F) 4 #[.val (.ref p)] []
  refine s_aloadn H d4_4 rfl rfl (pc' := 5) rfl ?_
  refine s_iconst H d4_5 (z := (0 : Int32)) (by decide) (pc' := 6) rfl ?_
  refine s_putf H d4_6 (mem (i := 28) rfl) (Or.inl (mem (i := 29) rfl)) (mem (i := 10) rfl) (ty := .int) (by decide) rfl rfl (i := 0) (j := 0) rfl rfl (pc' := 9) rfl ?_
  show Go Z k 0 0 ((p, Obj Z "java/util/ArrayList" [("java/util/AbstractList", "modCount", "I", (.int (0 : Int32))), ("java/util/ArrayList", "elementData", "[Ljava/lang/Object;", .null)]) :: F) 9 #[.val (.ref p)] []
  exact s_vret H d4_9 (by decide) (by decide) (⟨rfl, rfl⟩)
set_option maxRecDepth 65536 in
set_option maxHeartbeats 40000000 in
theorem met_arl {Z : State} (HT : Tb Z) {F : Hp} {sv : Addr} (p : Addr) (hS : Sta Z Z.heap "java/util/ArrayList" "DEFAULTCAPACITY_EMPTY_ELEMENTDATA" "[Ljava/lang/Object;" (.ref sv)) : Met Z y_3 jdk_38_method_2_code 1 none ({ frames := 3, cells := 0, slots := 0, locals := 36 } : Room) [(.ref p)] ((p, Obj Z "java/util/ArrayList" [("java/util/AbstractList", "modCount", "I", (.int (0 : Int32))), ("java/util/ArrayList", "elementData", "[Ljava/lang/Object;", .null)]) :: F) (fun v M' => v = none ∧ M' = ((p, Obj Z "java/util/ArrayList" [("java/util/AbstractList", "modCount", "I", (.int (0 : Int32))), ("java/util/ArrayList", "elementData", "[Ljava/lang/Object;", (.ref sv))]) :: F)) := by
  refine Met.of HT pl_3 (Ls := #[.val (.ref p)]) (fun m => by first | (simp [entryFrame, mkF, argsToLocals, Value.category]; done) | rfl) (fun k H => ?_)
  refine s_aloadn H d3_0 rfl rfl (pc' := 1) rfl ?_
  refine s_init H (met_ali H.tb p) d3_1 rfl (mem (i := 15) rfl) (mem (i := 16) rfl) (mem (i := 19) rfl) (mem (i := 20) rfl) (by decide) pd_4 rfl (rest := []) rfl rfl (by decide) (Nat.le_of_ble_eq_true rfl) (cn' := 0) (sn' := 0) rfl rfl (by decide) (by decide) (pc' := 4) rfl (fun v0 M0 hq => ?_)
  obtain ⟨rfl, hm0⟩ := hq
  subst M0
  show Go Z k 0 0 ((p, Obj Z "java/util/ArrayList" [("java/util/AbstractList", "modCount", "I", (.int (0 : Int32))), ("java/util/ArrayList", "elementData", "[Ljava/lang/Object;", .null)]) :: F) 4 #[.val (.ref p)] []
  refine s_aloadn H d3_4 rfl rfl (pc' := 5) rfl ?_
  refine s_gets H hS d3_5 (mem (i := 30) rfl) (pc' := 8) rfl ?_
  refine s_putf H d3_8 (mem (i := 31) rfl) (Or.inl (mem (i := 32) rfl)) (mem (i := 10) rfl) (ty := (.array (.object "java/lang/Object"))) (by decide) rfl rfl (i := 0) (j := 1) rfl rfl (pc' := 11) rfl ?_
  show Go Z k 0 0 ((p, Obj Z "java/util/ArrayList" [("java/util/AbstractList", "modCount", "I", (.int (0 : Int32))), ("java/util/ArrayList", "elementData", "[Ljava/lang/Object;", (.ref sv))]) :: F) 11 #[.val (.ref p)] []
  exact s_vret H d3_11 (by decide) (by decide) (⟨rfl, rfl⟩)
set_option maxRecDepth 65536 in
set_option maxHeartbeats 40000000 in
theorem met_mt {Z : State} (HT : Tb Z) {F : Hp} {sv : Addr} (mt : Addr) (pl : Int32) (hS : Sta Z Z.heap "java/util/ArrayList" "DEFAULTCAPACITY_EMPTY_ELEMENTDATA" "[Ljava/lang/Object;" (.ref sv)) : Met Z y_1 prog_50_method_1_code 2 none ({ frames := 4, cells := 3, slots := 1033, locals := 50 } : Room) [(.ref mt), (.int pl)] ((mt, Obj Z "com/example/workflow_net_analyzer/workflownetanalyzer/statespace/MarkingTable" [("com/example/workflow_net_analyzer/workflownetanalyzer/statespace/MarkingTable", "chunks", "Ljava/util/List;", .null), ("com/example/workflow_net_analyzer/workflownetanalyzer/statespace/MarkingTable", "slots", "[J", .null), ("com/example/workflow_net_analyzer/workflownetanalyzer/statespace/MarkingTable", "places", "I", (.int (0 : Int32))), ("com/example/workflow_net_analyzer/workflownetanalyzer/statespace/MarkingTable", "layout", "Lcom/example/workflow_net_analyzer/workflownetanalyzer/statespace/MarkingTable$Layout;", .null), ("com/example/workflow_net_analyzer/workflownetanalyzer/statespace/MarkingTable", "size", "I", (.int (0 : Int32)))]) :: F) (fun v M' => ∃ (la sa al : Addr) (a1 a2 a3 a4 : Int32), v = none ∧ M' = ((la, Obj Z "com/example/workflow_net_analyzer/workflownetanalyzer/statespace/MarkingTable$Layout" [("com/example/workflow_net_analyzer/workflownetanalyzer/statespace/MarkingTable$Layout", "width", "I", (.int (1 : Int32))), ("com/example/workflow_net_analyzer/workflownetanalyzer/statespace/MarkingTable$Layout", "widthShift", "I", (.int a1)), ("com/example/workflow_net_analyzer/workflownetanalyzer/statespace/MarkingTable$Layout", "longShift", "I", (.int a2)), ("com/example/workflow_net_analyzer/workflownetanalyzer/statespace/MarkingTable$Layout", "mask", "J", (.long (mk (1 : Int32)))), ("com/example/workflow_net_analyzer/workflownetanalyzer/statespace/MarkingTable$Layout", "stride", "I", (.int a3)), ("com/example/workflow_net_analyzer/workflownetanalyzer/statespace/MarkingTable$Layout", "chunkShift", "I", (.int a4))]) :: (sa, ArL Z (List.replicate 1024 0)) :: (al, Obj Z "java/util/ArrayList" [("java/util/AbstractList", "modCount", "I", (.int (0 : Int32))), ("java/util/ArrayList", "elementData", "[Ljava/lang/Object;", (.ref sv))]) :: (mt, Obj Z "com/example/workflow_net_analyzer/workflownetanalyzer/statespace/MarkingTable" [("com/example/workflow_net_analyzer/workflownetanalyzer/statespace/MarkingTable", "chunks", "Ljava/util/List;", (.ref al)), ("com/example/workflow_net_analyzer/workflownetanalyzer/statespace/MarkingTable", "slots", "[J", (.ref sa)), ("com/example/workflow_net_analyzer/workflownetanalyzer/statespace/MarkingTable", "places", "I", (.int pl)), ("com/example/workflow_net_analyzer/workflownetanalyzer/statespace/MarkingTable", "layout", "Lcom/example/workflow_net_analyzer/workflownetanalyzer/statespace/MarkingTable$Layout;", (.ref la)), ("com/example/workflow_net_analyzer/workflownetanalyzer/statespace/MarkingTable", "size", "I", (.int (0 : Int32)))]) :: F)) := by
  refine Met.of HT pl_1 (Ls := #[.val (.ref mt), .val (.int pl)]) (fun m => by first | (simp [entryFrame, mkF, argsToLocals, Value.category]; done) | rfl) (fun k H => ?_)
  refine s_aloadn H d1_0 rfl rfl (pc' := 1) rfl ?_
  refine s_objinit H d1_1 (mem (i := 6) rfl) (mem (i := 7) rfl) (mem (i := 8) rfl) rfl (by decide) (Nat.le_of_ble_eq_true rfl) (pc' := 4) rfl ?_
  refine s_aloadn H d1_4 rfl rfl (pc' := 5) rfl ?_
  refine s_new H (C := "java/util/ArrayList") [("java/util/AbstractList", "modCount", "I", (.int (0 : Int32))), ("java/util/ArrayList", "elementData", "[Ljava/lang/Object;", .null)] d1_5 (mem (i := 9) rfl) (mem (i := 10) rfl) (mem (i := 11) rfl) (allC ⟨Or.inl (mem (i := 29) rfl), .int, by decide, rfl⟩ (allC ⟨Or.inl (mem (i := 32) rfl), (.array (.object "java/lang/Object")), by decide, rfl⟩ allN)) (by decide) (cn' := 1) (sn' := 3) rfl rfl (by decide) (by decide) (pc' := 8) rfl (fun al => ?_)
  refine s_dup H d1_8 rfl (pc' := 9) rfl ?_
  refine s_init H (met_arl H.tb al hS) d1_9 rfl (mem (i := 12) rfl) (mem (i := 13) rfl) (mem (i := 11) rfl) (mem (i := 14) rfl) (by decide) pd_3 rfl (rest := [(.ref al), (.ref mt)]) rfl rfl (by decide) (Nat.le_of_ble_eq_true rfl) (cn' := 1) (sn' := 3) rfl rfl (by decide) (by decide) (pc' := 12) rfl (fun v0 M0 hq => ?_)
  obtain ⟨rfl, hm0⟩ := hq
  subst M0
  show Go Z k 1 3 ((al, Obj Z "java/util/ArrayList" [("java/util/AbstractList", "modCount", "I", (.int (0 : Int32))), ("java/util/ArrayList", "elementData", "[Ljava/lang/Object;", (.ref sv))]) :: (mt, Obj Z "com/example/workflow_net_analyzer/workflownetanalyzer/statespace/MarkingTable" [("com/example/workflow_net_analyzer/workflownetanalyzer/statespace/MarkingTable", "chunks", "Ljava/util/List;", .null), ("com/example/workflow_net_analyzer/workflownetanalyzer/statespace/MarkingTable", "slots", "[J", .null), ("com/example/workflow_net_analyzer/workflownetanalyzer/statespace/MarkingTable", "places", "I", (.int (0 : Int32))), ("com/example/workflow_net_analyzer/workflownetanalyzer/statespace/MarkingTable", "layout", "Lcom/example/workflow_net_analyzer/workflownetanalyzer/statespace/MarkingTable$Layout;", .null), ("com/example/workflow_net_analyzer/workflownetanalyzer/statespace/MarkingTable", "size", "I", (.int (0 : Int32)))]) :: F) 12 #[.val (.ref mt), .val (.int pl)] [(.ref al), (.ref mt)]
  refine s_putf H d1_12 (mem (i := 33) rfl) (Or.inl (mem (i := 34) rfl)) (mem (i := 1) rfl) (ty := (.object "java/util/List")) (by decide) rfl rfl (i := 1) (j := 0) rfl rfl (pc' := 15) rfl ?_
  show Go Z k 1 3 ((al, Obj Z "java/util/ArrayList" [("java/util/AbstractList", "modCount", "I", (.int (0 : Int32))), ("java/util/ArrayList", "elementData", "[Ljava/lang/Object;", (.ref sv))]) :: (mt, Obj Z "com/example/workflow_net_analyzer/workflownetanalyzer/statespace/MarkingTable" [("com/example/workflow_net_analyzer/workflownetanalyzer/statespace/MarkingTable", "chunks", "Ljava/util/List;", (.ref al)), ("com/example/workflow_net_analyzer/workflownetanalyzer/statespace/MarkingTable", "slots", "[J", .null), ("com/example/workflow_net_analyzer/workflownetanalyzer/statespace/MarkingTable", "places", "I", (.int (0 : Int32))), ("com/example/workflow_net_analyzer/workflownetanalyzer/statespace/MarkingTable", "layout", "Lcom/example/workflow_net_analyzer/workflownetanalyzer/statespace/MarkingTable$Layout;", .null), ("com/example/workflow_net_analyzer/workflownetanalyzer/statespace/MarkingTable", "size", "I", (.int (0 : Int32)))]) :: F) 15 #[.val (.ref mt), .val (.int pl)] []
  refine s_aloadn H d1_15 rfl rfl (pc' := 16) rfl ?_
  refine s_sipush H d1_16 (z := (1024 : Int32)) (by decide) (pc' := 19) rfl ?_
  refine s_newarr_long H d1_19 (mem (i := 35) rfl) (by decide) (cap := 1024) (by decide) (by decide) (cn' := 2) (sn' := 1027) rfl rfl (by decide) (by decide) (pc' := 21) rfl (fun sa => ?_)
  show Go Z k 2 1027 ((sa, ArL Z (List.replicate 1024 0)) :: (al, Obj Z "java/util/ArrayList" [("java/util/AbstractList", "modCount", "I", (.int (0 : Int32))), ("java/util/ArrayList", "elementData", "[Ljava/lang/Object;", (.ref sv))]) :: (mt, Obj Z "com/example/workflow_net_analyzer/workflownetanalyzer/statespace/MarkingTable" [("com/example/workflow_net_analyzer/workflownetanalyzer/statespace/MarkingTable", "chunks", "Ljava/util/List;", (.ref al)), ("com/example/workflow_net_analyzer/workflownetanalyzer/statespace/MarkingTable", "slots", "[J", .null), ("com/example/workflow_net_analyzer/workflownetanalyzer/statespace/MarkingTable", "places", "I", (.int (0 : Int32))), ("com/example/workflow_net_analyzer/workflownetanalyzer/statespace/MarkingTable", "layout", "Lcom/example/workflow_net_analyzer/workflownetanalyzer/statespace/MarkingTable$Layout;", .null), ("com/example/workflow_net_analyzer/workflownetanalyzer/statespace/MarkingTable", "size", "I", (.int (0 : Int32)))]) :: F) 21 #[.val (.ref mt), .val (.int pl)] [(.ref sa), (.ref mt)]
  refine s_putf H d1_21 (mem (i := 36) rfl) (Or.inl (mem (i := 37) rfl)) (mem (i := 1) rfl) (ty := (.array .long)) (by decide) rfl rfl (i := 2) (j := 1) rfl rfl (pc' := 24) rfl ?_
  show Go Z k 2 1027 ((sa, ArL Z (List.replicate 1024 0)) :: (al, Obj Z "java/util/ArrayList" [("java/util/AbstractList", "modCount", "I", (.int (0 : Int32))), ("java/util/ArrayList", "elementData", "[Ljava/lang/Object;", (.ref sv))]) :: (mt, Obj Z "com/example/workflow_net_analyzer/workflownetanalyzer/statespace/MarkingTable" [("com/example/workflow_net_analyzer/workflownetanalyzer/statespace/MarkingTable", "chunks", "Ljava/util/List;", (.ref al)), ("com/example/workflow_net_analyzer/workflownetanalyzer/statespace/MarkingTable", "slots", "[J", (.ref sa)), ("com/example/workflow_net_analyzer/workflownetanalyzer/statespace/MarkingTable", "places", "I", (.int (0 : Int32))), ("com/example/workflow_net_analyzer/workflownetanalyzer/statespace/MarkingTable", "layout", "Lcom/example/workflow_net_analyzer/workflownetanalyzer/statespace/MarkingTable$Layout;", .null), ("com/example/workflow_net_analyzer/workflownetanalyzer/statespace/MarkingTable", "size", "I", (.int (0 : Int32)))]) :: F) 24 #[.val (.ref mt), .val (.int pl)] []
  refine s_aloadn H d1_24 rfl rfl (pc' := 25) rfl ?_
  refine s_iloadn H d1_25 rfl (pc' := 26) rfl ?_
  refine s_putf H d1_26 (mem (i := 38) rfl) (Or.inr ⟨(mem (i := 39) rfl), rfl, rfl⟩) (mem (i := 1) rfl) (ty := .int) (by decide) rfl rfl (i := 2) (j := 2) rfl rfl (pc' := 29) rfl ?_
  show Go Z k 2 1027 ((sa, ArL Z (List.replicate 1024 0)) :: (al, Obj Z "java/util/ArrayList" [("java/util/AbstractList", "modCount", "I", (.int (0 : Int32))), ("java/util/ArrayList", "elementData", "[Ljava/lang/Object;", (.ref sv))]) :: (mt, Obj Z "com/example/workflow_net_analyzer/workflownetanalyzer/statespace/MarkingTable" [("com/example/workflow_net_analyzer/workflownetanalyzer/statespace/MarkingTable", "chunks", "Ljava/util/List;", (.ref al)), ("com/example/workflow_net_analyzer/workflownetanalyzer/statespace/MarkingTable", "slots", "[J", (.ref sa)), ("com/example/workflow_net_analyzer/workflownetanalyzer/statespace/MarkingTable", "places", "I", (.int pl)), ("com/example/workflow_net_analyzer/workflownetanalyzer/statespace/MarkingTable", "layout", "Lcom/example/workflow_net_analyzer/workflownetanalyzer/statespace/MarkingTable$Layout;", .null), ("com/example/workflow_net_analyzer/workflownetanalyzer/statespace/MarkingTable", "size", "I", (.int (0 : Int32)))]) :: F) 29 #[.val (.ref mt), .val (.int pl)] []
  refine s_aloadn H d1_29 rfl rfl (pc' := 30) rfl ?_
  refine s_new H (C := "com/example/workflow_net_analyzer/workflownetanalyzer/statespace/MarkingTable$Layout") [("com/example/workflow_net_analyzer/workflownetanalyzer/statespace/MarkingTable$Layout", "width", "I", (.int (0 : Int32))), ("com/example/workflow_net_analyzer/workflownetanalyzer/statespace/MarkingTable$Layout", "widthShift", "I", (.int (0 : Int32))), ("com/example/workflow_net_analyzer/workflownetanalyzer/statespace/MarkingTable$Layout", "longShift", "I", (.int (0 : Int32))), ("com/example/workflow_net_analyzer/workflownetanalyzer/statespace/MarkingTable$Layout", "mask", "J", (.long (0 : Int64))), ("com/example/workflow_net_analyzer/workflownetanalyzer/statespace/MarkingTable$Layout", "stride", "I", (.int (0 : Int32))), ("com/example/workflow_net_analyzer/workflownetanalyzer/statespace/MarkingTable$Layout", "chunkShift", "I", (.int (0 : Int32)))] d1_30 (mem (i := 40) rfl) (mem (i := 41) rfl) (mem (i := 42) rfl) (allC ⟨Or.inr (mem (i := 48) rfl), .int, by decide, rfl⟩ (allC ⟨Or.inr (mem (i := 54) rfl), .int, by decide, rfl⟩ (allC ⟨Or.inr (mem (i := 56) rfl), .int, by decide, rfl⟩ (allC ⟨Or.inr (mem (i := 58) rfl), .long, by decide, rfl⟩ (allC ⟨Or.inr (mem (i := 64) rfl), .int, by decide, rfl⟩ (allC ⟨Or.inr (mem (i := 71) rfl), .int, by decide, rfl⟩ allN)))))) (by decide) (cn' := 3) (sn' := 1033) rfl rfl (by decide) (by decide) (pc' := 33) rfl (fun la => ?_)
  refine s_dup H d1_33 rfl (pc' := 34) rfl ?_
  refine s_iconst H d1_34 (z := (1 : Int32)) (by decide) (pc' := 35) rfl ?_
  refine s_iloadn H d1_35 rfl (pc' := 36) rfl ?_
  refine s_init H (met_ly H.tb la (1 : Int32) pl) d1_36 rfl (mem (i := 43) rfl) (mem (i := 44) rfl) (mem (i := 42) rfl) (mem (i := 45) rfl) (by decide) pd_6 rfl (rest := [(.ref la), (.ref mt)]) rfl rfl (by decide) (Nat.le_of_ble_eq_true rfl) (cn' := 3) (sn' := 1033) rfl rfl (by decide) (by decide) (pc' := 39) rfl (fun v0 M0 hq => ?_)
  obtain ⟨s1, s2, s3, s4, rfl, hm0⟩ := hq
  subst M0
  show Go Z k 3 1033 ((la, Obj Z "com/example/workflow_net_analyzer/workflownetanalyzer/statespace/MarkingTable$Layout" [("com/example/workflow_net_analyzer/workflownetanalyzer/statespace/MarkingTable$Layout", "width", "I", (.int (1 : Int32))), ("com/example/workflow_net_analyzer/workflownetanalyzer/statespace/MarkingTable$Layout", "widthShift", "I", (.int s1)), ("com/example/workflow_net_analyzer/workflownetanalyzer/statespace/MarkingTable$Layout", "longShift", "I", (.int s2)), ("com/example/workflow_net_analyzer/workflownetanalyzer/statespace/MarkingTable$Layout", "mask", "J", (.long (mk (1 : Int32)))), ("com/example/workflow_net_analyzer/workflownetanalyzer/statespace/MarkingTable$Layout", "stride", "I", (.int s3)), ("com/example/workflow_net_analyzer/workflownetanalyzer/statespace/MarkingTable$Layout", "chunkShift", "I", (.int s4))]) :: (sa, ArL Z (List.replicate 1024 0)) :: (al, Obj Z "java/util/ArrayList" [("java/util/AbstractList", "modCount", "I", (.int (0 : Int32))), ("java/util/ArrayList", "elementData", "[Ljava/lang/Object;", (.ref sv))]) :: (mt, Obj Z "com/example/workflow_net_analyzer/workflownetanalyzer/statespace/MarkingTable" [("com/example/workflow_net_analyzer/workflownetanalyzer/statespace/MarkingTable", "chunks", "Ljava/util/List;", (.ref al)), ("com/example/workflow_net_analyzer/workflownetanalyzer/statespace/MarkingTable", "slots", "[J", (.ref sa)), ("com/example/workflow_net_analyzer/workflownetanalyzer/statespace/MarkingTable", "places", "I", (.int pl)), ("com/example/workflow_net_analyzer/workflownetanalyzer/statespace/MarkingTable", "layout", "Lcom/example/workflow_net_analyzer/workflownetanalyzer/statespace/MarkingTable$Layout;", .null), ("com/example/workflow_net_analyzer/workflownetanalyzer/statespace/MarkingTable", "size", "I", (.int (0 : Int32)))]) :: F) 39 #[.val (.ref mt), .val (.int pl)] [(.ref la), (.ref mt)]
  refine s_putf H d1_39 (mem (i := 72) rfl) (Or.inl (mem (i := 73) rfl)) (mem (i := 1) rfl) (ty := (.object "com/example/workflow_net_analyzer/workflownetanalyzer/statespace/MarkingTable$Layout")) (by decide) rfl rfl (i := 3) (j := 3) rfl rfl (pc' := 42) rfl ?_
  show Go Z k 3 1033 ((la, Obj Z "com/example/workflow_net_analyzer/workflownetanalyzer/statespace/MarkingTable$Layout" [("com/example/workflow_net_analyzer/workflownetanalyzer/statespace/MarkingTable$Layout", "width", "I", (.int (1 : Int32))), ("com/example/workflow_net_analyzer/workflownetanalyzer/statespace/MarkingTable$Layout", "widthShift", "I", (.int s1)), ("com/example/workflow_net_analyzer/workflownetanalyzer/statespace/MarkingTable$Layout", "longShift", "I", (.int s2)), ("com/example/workflow_net_analyzer/workflownetanalyzer/statespace/MarkingTable$Layout", "mask", "J", (.long (mk (1 : Int32)))), ("com/example/workflow_net_analyzer/workflownetanalyzer/statespace/MarkingTable$Layout", "stride", "I", (.int s3)), ("com/example/workflow_net_analyzer/workflownetanalyzer/statespace/MarkingTable$Layout", "chunkShift", "I", (.int s4))]) :: (sa, ArL Z (List.replicate 1024 0)) :: (al, Obj Z "java/util/ArrayList" [("java/util/AbstractList", "modCount", "I", (.int (0 : Int32))), ("java/util/ArrayList", "elementData", "[Ljava/lang/Object;", (.ref sv))]) :: (mt, Obj Z "com/example/workflow_net_analyzer/workflownetanalyzer/statespace/MarkingTable" [("com/example/workflow_net_analyzer/workflownetanalyzer/statespace/MarkingTable", "chunks", "Ljava/util/List;", (.ref al)), ("com/example/workflow_net_analyzer/workflownetanalyzer/statespace/MarkingTable", "slots", "[J", (.ref sa)), ("com/example/workflow_net_analyzer/workflownetanalyzer/statespace/MarkingTable", "places", "I", (.int pl)), ("com/example/workflow_net_analyzer/workflownetanalyzer/statespace/MarkingTable", "layout", "Lcom/example/workflow_net_analyzer/workflownetanalyzer/statespace/MarkingTable$Layout;", (.ref la)), ("com/example/workflow_net_analyzer/workflownetanalyzer/statespace/MarkingTable", "size", "I", (.int (0 : Int32)))]) :: F) 42 #[.val (.ref mt), .val (.int pl)] []
  exact s_vret H d1_42 (by decide) (by decide) (⟨la, sa, al, _, _, _, _, rfl, rfl⟩)
set_option maxRecDepth 65536 in
set_option maxHeartbeats 40000000 in
theorem met_ft {Z : State} (HT : Tb Z) {F : Hp} {sv : Addr} (mt la sa al : Addr) (pl w a1 a2 a3 a4 : Int32) (t : Int64)  : Met Z y_11 prog_50_method_8_code 3 (some .boolean) ({ frames := 0, cells := 0, slots := 0, locals := 0 } : Room) [(.ref mt), (.long t)] ((la, Obj Z "com/example/workflow_net_analyzer/workflownetanalyzer/statespace/MarkingTable$Layout" [("com/example/workflow_net_analyzer/workflownetanalyzer/statespace/MarkingTable$Layout", "width", "I", (.int w)), ("com/example/workflow_net_analyzer/workflownetanalyzer/statespace/MarkingTable$Layout", "widthShift", "I", (.int a1)), ("com/example/workflow_net_analyzer/workflownetanalyzer/statespace/MarkingTable$Layout", "longShift", "I", (.int a2)), ("com/example/workflow_net_analyzer/workflownetanalyzer/statespace/MarkingTable$Layout", "mask", "J", (.long (mk w))), ("com/example/workflow_net_analyzer/workflownetanalyzer/statespace/MarkingTable$Layout", "stride", "I", (.int a3)), ("com/example/workflow_net_analyzer/workflownetanalyzer/statespace/MarkingTable$Layout", "chunkShift", "I", (.int a4))]) :: (sa, ArL Z (List.replicate 1024 0)) :: (al, Obj Z "java/util/ArrayList" [("java/util/AbstractList", "modCount", "I", (.int (0 : Int32))), ("java/util/ArrayList", "elementData", "[Ljava/lang/Object;", (.ref sv))]) :: (mt, Obj Z "com/example/workflow_net_analyzer/workflownetanalyzer/statespace/MarkingTable" [("com/example/workflow_net_analyzer/workflownetanalyzer/statespace/MarkingTable", "chunks", "Ljava/util/List;", (.ref al)), ("com/example/workflow_net_analyzer/workflownetanalyzer/statespace/MarkingTable", "slots", "[J", (.ref sa)), ("com/example/workflow_net_analyzer/workflownetanalyzer/statespace/MarkingTable", "places", "I", (.int pl)), ("com/example/workflow_net_analyzer/workflownetanalyzer/statespace/MarkingTable", "layout", "Lcom/example/workflow_net_analyzer/workflownetanalyzer/statespace/MarkingTable$Layout;", (.ref la)), ("com/example/workflow_net_analyzer/workflownetanalyzer/statespace/MarkingTable", "size", "I", (.int (0 : Int32)))]) :: F) (fun v M' => v = some (.int (if t &&& (mk w ^^^ (-1 : Int64)) = 0 then 1 else 0)) ∧ M' = ((la, Obj Z "com/example/workflow_net_analyzer/workflownetanalyzer/statespace/MarkingTable$Layout" [("com/example/workflow_net_analyzer/workflownetanalyzer/statespace/MarkingTable$Layout", "width", "I", (.int w)), ("com/example/workflow_net_analyzer/workflownetanalyzer/statespace/MarkingTable$Layout", "widthShift", "I", (.int a1)), ("com/example/workflow_net_analyzer/workflownetanalyzer/statespace/MarkingTable$Layout", "longShift", "I", (.int a2)), ("com/example/workflow_net_analyzer/workflownetanalyzer/statespace/MarkingTable$Layout", "mask", "J", (.long (mk w))), ("com/example/workflow_net_analyzer/workflownetanalyzer/statespace/MarkingTable$Layout", "stride", "I", (.int a3)), ("com/example/workflow_net_analyzer/workflownetanalyzer/statespace/MarkingTable$Layout", "chunkShift", "I", (.int a4))]) :: (sa, ArL Z (List.replicate 1024 0)) :: (al, Obj Z "java/util/ArrayList" [("java/util/AbstractList", "modCount", "I", (.int (0 : Int32))), ("java/util/ArrayList", "elementData", "[Ljava/lang/Object;", (.ref sv))]) :: (mt, Obj Z "com/example/workflow_net_analyzer/workflownetanalyzer/statespace/MarkingTable" [("com/example/workflow_net_analyzer/workflownetanalyzer/statespace/MarkingTable", "chunks", "Ljava/util/List;", (.ref al)), ("com/example/workflow_net_analyzer/workflownetanalyzer/statespace/MarkingTable", "slots", "[J", (.ref sa)), ("com/example/workflow_net_analyzer/workflownetanalyzer/statespace/MarkingTable", "places", "I", (.int pl)), ("com/example/workflow_net_analyzer/workflownetanalyzer/statespace/MarkingTable", "layout", "Lcom/example/workflow_net_analyzer/workflownetanalyzer/statespace/MarkingTable$Layout;", (.ref la)), ("com/example/workflow_net_analyzer/workflownetanalyzer/statespace/MarkingTable", "size", "I", (.int (0 : Int32)))]) :: F)) := by
  refine Met.of HT pl_11 (Ls := #[.val (.ref mt), .val (.long t), .second]) (fun m => by first | (simp [entryFrame, mkF, argsToLocals, Value.category]; done) | rfl) (fun k H => ?_)
  refine s_lloadn H d11_0 rfl (pc' := 1) rfl ?_
  refine s_aloadn H d11_1 rfl rfl (pc' := 2) rfl ?_
  refine s_getf H d11_2 (mem (i := 72) rfl) (i := 3) (j := 3) rfl rfl (pc' := 5) rfl ?_
  refine s_getfR H d11_5 (mem (i := 87) rfl) (i := 0) (j := 3) rfl rfl (pc' := 8) rfl ?_
  refine s_ldc2 H d11_8 (mem (i := 88) rfl) (pc' := 11) rfl ?_
  refine s_lxor H d11_11 (pc' := 12) rfl ?_
  refine s_land H d11_12 (pc' := 13) rfl ?_
  refine s_lconst H d11_13 (z := (0 : Int64)) (by decide) (pc' := 14) rfl ?_
  refine s_lcmp H d11_14 (pc' := 15) rfl ?_
  refine s_if H d11_15 (py := 22) (pc' := 18) l_ne (by decide) rfl (fun c15 => ?_) (fun c15 => ?_)
  · refine s_iconst H d11_22 (z := (0 : Int32)) (by decide) (pc' := 23) rfl ?_
    exact s_iret H d11_23 rfl (by simp) (by decide) (by decide) (⟨by simp_all, rfl⟩)
  · refine s_iconst H d11_18 (z := (1 : Int32)) (by decide) (pc' := 19) rfl ?_
    refine s_goto H d11_19 (pc' := 23) (by decide) ?_
    exact s_iret H d11_23 rfl (by simp) (by decide) (by decide) (⟨by simp_all, rfl⟩)
set_option maxRecDepth 65536 in
set_option maxHeartbeats 40000000 in
theorem w29 {Z : State} {k : Cx} {F : Hp} {sv mt la sa al : Addr} {pl a1 a2 a3 a4 : Int32} {t : Int64} {k0 : Nat} (k' : Nat) (H : Ok Z k ({ frames := 4, cells := 3, slots := 1033, locals := 49 } : Room) (fun v M' => ∃ (k' : Nat) (la2 sa2 al2 : Addr) (b1 b2 b3 b4 : Int32) (F' : Hp), WR t k0 k' ∧ v = none ∧ M' = ((la2, Obj Z "com/example/workflow_net_analyzer/workflownetanalyzer/statespace/MarkingTable$Layout" [("com/example/workflow_net_analyzer/workflownetanalyzer/statespace/MarkingTable$Layout", "width", "I", (.int (2 ^ k').toInt32)), ("com/example/workflow_net_analyzer/workflownetanalyzer/statespace/MarkingTable$Layout", "widthShift", "I", (.int b1)), ("com/example/workflow_net_analyzer/workflownetanalyzer/statespace/MarkingTable$Layout", "longShift", "I", (.int b2)), ("com/example/workflow_net_analyzer/workflownetanalyzer/statespace/MarkingTable$Layout", "mask", "J", (.long (mk ((2 ^ k').toInt32)))), ("com/example/workflow_net_analyzer/workflownetanalyzer/statespace/MarkingTable$Layout", "stride", "I", (.int b3)), ("com/example/workflow_net_analyzer/workflownetanalyzer/statespace/MarkingTable$Layout", "chunkShift", "I", (.int b4))]) :: (sa2, ArL Z (List.replicate 1024 0)) :: (al2, Obj Z "java/util/ArrayList" [("java/util/AbstractList", "modCount", "I", (.int (0 : Int32))), ("java/util/ArrayList", "elementData", "[Ljava/lang/Object;", (.ref sv))]) :: (mt, Obj Z "com/example/workflow_net_analyzer/workflownetanalyzer/statespace/MarkingTable" [("com/example/workflow_net_analyzer/workflownetanalyzer/statespace/MarkingTable", "chunks", "Ljava/util/List;", (.ref al2)), ("com/example/workflow_net_analyzer/workflownetanalyzer/statespace/MarkingTable", "slots", "[J", (.ref sa2)), ("com/example/workflow_net_analyzer/workflownetanalyzer/statespace/MarkingTable", "places", "I", (.int pl)), ("com/example/workflow_net_analyzer/workflownetanalyzer/statespace/MarkingTable", "layout", "Lcom/example/workflow_net_analyzer/workflownetanalyzer/statespace/MarkingTable$Layout;", (.ref la2)), ("com/example/workflow_net_analyzer/workflownetanalyzer/statespace/MarkingTable", "size", "I", (.int (0 : Int32)))]) :: F')) y_10 prog_50_method_9_code 11 none) (hS : Sta Z Z.heap "java/util/ArrayList" "DEFAULTCAPACITY_EMPTY_ELEMENTDATA" "[Ljava/lang/Object;" (.ref sv)) (hW : WR t k0 k') : Go Z k 0 0 ((la, Obj Z "com/example/workflow_net_analyzer/workflownetanalyzer/statespace/MarkingTable$Layout" [("com/example/workflow_net_analyzer/workflownetanalyzer/statespace/MarkingTable$Layout", "width", "I", (.int (2 ^ k0).toInt32)), ("com/example/workflow_net_analyzer/workflownetanalyzer/statespace/MarkingTable$Layout", "widthShift", "I", (.int a1)), ("com/example/workflow_net_analyzer/workflownetanalyzer/statespace/MarkingTable$Layout", "longShift", "I", (.int a2)), ("com/example/workflow_net_analyzer/workflownetanalyzer/statespace/MarkingTable$Layout", "mask", "J", (.long (mk ((2 ^ k0).toInt32)))), ("com/example/workflow_net_analyzer/workflownetanalyzer/statespace/MarkingTable$Layout", "stride", "I", (.int a3)), ("com/example/workflow_net_analyzer/workflownetanalyzer/statespace/MarkingTable$Layout", "chunkShift", "I", (.int a4))]) :: (sa, ArL Z (List.replicate 1024 0)) :: (al, Obj Z "java/util/ArrayList" [("java/util/AbstractList", "modCount", "I", (.int (0 : Int32))), ("java/util/ArrayList", "elementData", "[Ljava/lang/Object;", (.ref sv))]) :: (mt, Obj Z "com/example/workflow_net_analyzer/workflownetanalyzer/statespace/MarkingTable" [("com/example/workflow_net_analyzer/workflownetanalyzer/statespace/MarkingTable", "chunks", "Ljava/util/List;", (.ref al)), ("com/example/workflow_net_analyzer/workflownetanalyzer/statespace/MarkingTable", "slots", "[J", (.ref sa)), ("com/example/workflow_net_analyzer/workflownetanalyzer/statespace/MarkingTable", "places", "I", (.int pl)), ("com/example/workflow_net_analyzer/workflownetanalyzer/statespace/MarkingTable", "layout", "Lcom/example/workflow_net_analyzer/workflownetanalyzer/statespace/MarkingTable$Layout;", (.ref la)), ("com/example/workflow_net_analyzer/workflownetanalyzer/statespace/MarkingTable", "size", "I", (.int (0 : Int32)))]) :: F) 29 #[.val (.ref mt), .val (.long t), .second, .val (.int (2 ^ k').toInt32), .unset, .unset, .unset, .unset, .unset, .unset, .unset] [] := by
  refine s_aloadn H d10_29 rfl rfl (pc' := 30) rfl ?_
  refine s_getf H d10_30 (mem (i := 72) rfl) (i := 3) (j := 3) rfl rfl (pc' := 33) rfl ?_
  refine s_astore H d10_33 (L' := #[.val (.ref mt), .val (.long t), .second, .val (.int (2 ^ k').toInt32), .val (.ref la), .unset, .unset, .unset, .unset, .unset, .unset]) rfl rfl (pc' := 35) rfl ?_
  refine s_new H (C := "com/example/workflow_net_analyzer/workflownetanalyzer/statespace/MarkingTable$Layout") [("com/example/workflow_net_analyzer/workflownetanalyzer/statespace/MarkingTable$Layout", "width", "I", (.int (0 : Int32))), ("com/example/workflow_net_analyzer/workflownetanalyzer/statespace/MarkingTable$Layout", "widthShift", "I", (.int (0 : Int32))), ("com/example/workflow_net_analyzer/workflownetanalyzer/statespace/MarkingTable$Layout", "longShift", "I", (.int (0 : Int32))), ("com/example/workflow_net_analyzer/workflownetanalyzer/statespace/MarkingTable$Layout", "mask", "J", (.long (0 : Int64))), ("com/example/workflow_net_analyzer/workflownetanalyzer/statespace/MarkingTable$Layout", "stride", "I", (.int (0 : Int32))), ("com/example/workflow_net_analyzer/workflownetanalyzer/statespace/MarkingTable$Layout", "chunkShift", "I", (.int (0 : Int32)))] d10_35 (mem (i := 40) rfl) (mem (i := 41) rfl) (mem (i := 42) rfl) (allC ⟨Or.inr (mem (i := 48) rfl), .int, by decide, rfl⟩ (allC ⟨Or.inr (mem (i := 54) rfl), .int, by decide, rfl⟩ (allC ⟨Or.inr (mem (i := 56) rfl), .int, by decide, rfl⟩ (allC ⟨Or.inr (mem (i := 58) rfl), .long, by decide, rfl⟩ (allC ⟨Or.inr (mem (i := 64) rfl), .int, by decide, rfl⟩ (allC ⟨Or.inr (mem (i := 71) rfl), .int, by decide, rfl⟩ allN)))))) (by decide) (cn' := 1) (sn' := 6) rfl rfl (by decide) (by decide) (pc' := 38) rfl (fun la2 => ?_)
  refine s_dup H d10_38 rfl (pc' := 39) rfl ?_
  refine s_iloadn H d10_39 rfl (pc' := 40) rfl ?_
  refine s_aloadn H d10_40 rfl rfl (pc' := 41) rfl ?_
  refine s_getf H d10_41 (mem (i := 38) rfl) (i := 4) (j := 2) rfl rfl (pc' := 44) rfl ?_
  refine s_init H (met_ly H.tb la2 ((2 ^ k').toInt32) pl) d10_44 rfl (mem (i := 43) rfl) (mem (i := 44) rfl) (mem (i := 42) rfl) (mem (i := 45) rfl) (by decide) pd_6 rfl (rest := [(.ref la2)]) rfl rfl (by decide) (Nat.le_of_ble_eq_true rfl) (cn' := 1) (sn' := 6) rfl rfl (by decide) (by decide) (pc' := 47) rfl (fun v0 M0 hq => ?_)
  obtain ⟨s1, s2, s3, s4, rfl, hm0⟩ := hq
  subst M0
  show Go Z k 1 6 ((la2, Obj Z "com/example/workflow_net_analyzer/workflownetanalyzer/statespace/MarkingTable$Layout" [("com/example/workflow_net_analyzer/workflownetanalyzer/statespace/MarkingTable$Layout", "width", "I", (.int (2 ^ k').toInt32)), ("com/example/workflow_net_analyzer/workflownetanalyzer/statespace/MarkingTable$Layout", "widthShift", "I", (.int s1)), ("com/example/workflow_net_analyzer/workflownetanalyzer/statespace/MarkingTable$Layout", "longShift", "I", (.int s2)), ("com/example/workflow_net_analyzer/workflownetanalyzer/statespace/MarkingTable$Layout", "mask", "J", (.long (mk ((2 ^ k').toInt32)))), ("com/example/workflow_net_analyzer/workflownetanalyzer/statespace/MarkingTable$Layout", "stride", "I", (.int s3)), ("com/example/workflow_net_analyzer/workflownetanalyzer/statespace/MarkingTable$Layout", "chunkShift", "I", (.int s4))]) :: (la, Obj Z "com/example/workflow_net_analyzer/workflownetanalyzer/statespace/MarkingTable$Layout" [("com/example/workflow_net_analyzer/workflownetanalyzer/statespace/MarkingTable$Layout", "width", "I", (.int (2 ^ k0).toInt32)), ("com/example/workflow_net_analyzer/workflownetanalyzer/statespace/MarkingTable$Layout", "widthShift", "I", (.int a1)), ("com/example/workflow_net_analyzer/workflownetanalyzer/statespace/MarkingTable$Layout", "longShift", "I", (.int a2)), ("com/example/workflow_net_analyzer/workflownetanalyzer/statespace/MarkingTable$Layout", "mask", "J", (.long (mk ((2 ^ k0).toInt32)))), ("com/example/workflow_net_analyzer/workflownetanalyzer/statespace/MarkingTable$Layout", "stride", "I", (.int a3)), ("com/example/workflow_net_analyzer/workflownetanalyzer/statespace/MarkingTable$Layout", "chunkShift", "I", (.int a4))]) :: (sa, ArL Z (List.replicate 1024 0)) :: (al, Obj Z "java/util/ArrayList" [("java/util/AbstractList", "modCount", "I", (.int (0 : Int32))), ("java/util/ArrayList", "elementData", "[Ljava/lang/Object;", (.ref sv))]) :: (mt, Obj Z "com/example/workflow_net_analyzer/workflownetanalyzer/statespace/MarkingTable" [("com/example/workflow_net_analyzer/workflownetanalyzer/statespace/MarkingTable", "chunks", "Ljava/util/List;", (.ref al)), ("com/example/workflow_net_analyzer/workflownetanalyzer/statespace/MarkingTable", "slots", "[J", (.ref sa)), ("com/example/workflow_net_analyzer/workflownetanalyzer/statespace/MarkingTable", "places", "I", (.int pl)), ("com/example/workflow_net_analyzer/workflownetanalyzer/statespace/MarkingTable", "layout", "Lcom/example/workflow_net_analyzer/workflownetanalyzer/statespace/MarkingTable$Layout;", (.ref la)), ("com/example/workflow_net_analyzer/workflownetanalyzer/statespace/MarkingTable", "size", "I", (.int (0 : Int32)))]) :: F) 47 #[.val (.ref mt), .val (.long t), .second, .val (.int (2 ^ k').toInt32), .val (.ref la), .unset, .unset, .unset, .unset, .unset, .unset] [(.ref la2)]
  refine s_astore H d10_47 (L' := #[.val (.ref mt), .val (.long t), .second, .val (.int (2 ^ k').toInt32), .val (.ref la), .val (.ref la2), .unset, .unset, .unset, .unset, .unset]) rfl rfl (pc' := 49) rfl ?_
  refine s_new H (C := "java/util/ArrayList") [("java/util/AbstractList", "modCount", "I", (.int (0 : Int32))), ("java/util/ArrayList", "elementData", "[Ljava/lang/Object;", .null)] d10_49 (mem (i := 9) rfl) (mem (i := 10) rfl) (mem (i := 11) rfl) (allC ⟨Or.inl (mem (i := 29) rfl), .int, by decide, rfl⟩ (allC ⟨Or.inl (mem (i := 32) rfl), (.array (.object "java/lang/Object")), by decide, rfl⟩ allN)) (by decide) (cn' := 2) (sn' := 9) rfl rfl (by decide) (by decide) (pc' := 52) rfl (fun al2 => ?_)
  refine s_dup H d10_52 rfl (pc' := 53) rfl ?_
  refine s_init H (met_arl H.tb al2 hS) d10_53 rfl (mem (i := 12) rfl) (mem (i := 13) rfl) (mem (i := 11) rfl) (mem (i := 14) rfl) (by decide) pd_3 rfl (rest := [(.ref al2)]) rfl rfl (by decide) (Nat.le_of_ble_eq_true rfl) (cn' := 2) (sn' := 9) rfl rfl (by decide) (by decide) (pc' := 56) rfl (fun v0 M0 hq => ?_)
  obtain ⟨rfl, hm0⟩ := hq
  subst M0
  show Go Z k 2 9 ((al2, Obj Z "java/util/ArrayList" [("java/util/AbstractList", "modCount", "I", (.int (0 : Int32))), ("java/util/ArrayList", "elementData", "[Ljava/lang/Object;", (.ref sv))]) :: (la2, Obj Z "com/example/workflow_net_analyzer/workflownetanalyzer/statespace/MarkingTable$Layout" [("com/example/workflow_net_analyzer/workflownetanalyzer/statespace/MarkingTable$Layout", "width", "I", (.int (2 ^ k').toInt32)), ("com/example/workflow_net_analyzer/workflownetanalyzer/statespace/MarkingTable$Layout", "widthShift", "I", (.int s1)), ("com/example/workflow_net_analyzer/workflownetanalyzer/statespace/MarkingTable$Layout", "longShift", "I", (.int s2)), ("com/example/workflow_net_analyzer/workflownetanalyzer/statespace/MarkingTable$Layout", "mask", "J", (.long (mk ((2 ^ k').toInt32)))), ("com/example/workflow_net_analyzer/workflownetanalyzer/statespace/MarkingTable$Layout", "stride", "I", (.int s3)), ("com/example/workflow_net_analyzer/workflownetanalyzer/statespace/MarkingTable$Layout", "chunkShift", "I", (.int s4))]) :: (la, Obj Z "com/example/workflow_net_analyzer/workflownetanalyzer/statespace/MarkingTable$Layout" [("com/example/workflow_net_analyzer/workflownetanalyzer/statespace/MarkingTable$Layout", "width", "I", (.int (2 ^ k0).toInt32)), ("com/example/workflow_net_analyzer/workflownetanalyzer/statespace/MarkingTable$Layout", "widthShift", "I", (.int a1)), ("com/example/workflow_net_analyzer/workflownetanalyzer/statespace/MarkingTable$Layout", "longShift", "I", (.int a2)), ("com/example/workflow_net_analyzer/workflownetanalyzer/statespace/MarkingTable$Layout", "mask", "J", (.long (mk ((2 ^ k0).toInt32)))), ("com/example/workflow_net_analyzer/workflownetanalyzer/statespace/MarkingTable$Layout", "stride", "I", (.int a3)), ("com/example/workflow_net_analyzer/workflownetanalyzer/statespace/MarkingTable$Layout", "chunkShift", "I", (.int a4))]) :: (sa, ArL Z (List.replicate 1024 0)) :: (al, Obj Z "java/util/ArrayList" [("java/util/AbstractList", "modCount", "I", (.int (0 : Int32))), ("java/util/ArrayList", "elementData", "[Ljava/lang/Object;", (.ref sv))]) :: (mt, Obj Z "com/example/workflow_net_analyzer/workflownetanalyzer/statespace/MarkingTable" [("com/example/workflow_net_analyzer/workflownetanalyzer/statespace/MarkingTable", "chunks", "Ljava/util/List;", (.ref al)), ("com/example/workflow_net_analyzer/workflownetanalyzer/statespace/MarkingTable", "slots", "[J", (.ref sa)), ("com/example/workflow_net_analyzer/workflownetanalyzer/statespace/MarkingTable", "places", "I", (.int pl)), ("com/example/workflow_net_analyzer/workflownetanalyzer/statespace/MarkingTable", "layout", "Lcom/example/workflow_net_analyzer/workflownetanalyzer/statespace/MarkingTable$Layout;", (.ref la)), ("com/example/workflow_net_analyzer/workflownetanalyzer/statespace/MarkingTable", "size", "I", (.int (0 : Int32)))]) :: F) 56 #[.val (.ref mt), .val (.long t), .second, .val (.int (2 ^ k').toInt32), .val (.ref la), .val (.ref la2), .unset, .unset, .unset, .unset, .unset] [(.ref al2)]
  refine s_astore H d10_56 (L' := #[.val (.ref mt), .val (.long t), .second, .val (.int (2 ^ k').toInt32), .val (.ref la), .val (.ref la2), .val (.ref al2), .unset, .unset, .unset, .unset]) rfl rfl (pc' := 58) rfl ?_
  refine s_iconst H d10_58 (z := (0 : Int32)) (by decide) (pc' := 59) rfl ?_
  refine s_istore H d10_59 (L' := fun z => #[.val (.ref mt), .val (.long t), .second, .val (.int (2 ^ k').toInt32), .val (.ref la), .val (.ref la2), .val (.ref al2), .val (.int z), .unset, .unset, .unset]) (fun _ => rfl) (pc' := 61) rfl (fun z0 hz => ?_)
  subst z0
  refine s_iload H d10_61 rfl (pc' := 63) rfl ?_
  refine s_aloadn H d10_63 rfl rfl (pc' := 64) rfl ?_
  refine s_getf H d10_64 (mem (i := 80) rfl) (i := 5) (j := 4) rfl rfl (pc' := 67) rfl ?_
  refine s_icmp H d10_67 (py := 191) (pc' := 70) q_ge (by decide) rfl (fun c67 => ?_) (fun c67 => ?_)
  · refine s_aloadn H d10_191 rfl rfl (pc' := 192) rfl ?_
    refine s_aload H d10_192 rfl rfl (pc' := 194) rfl ?_
    refine s_putf H d10_194 (mem (i := 72) rfl) (Or.inl (mem (i := 73) rfl)) (mem (i := 1) rfl) (ty := (.object "com/example/workflow_net_analyzer/workflownetanalyzer/statespace/MarkingTable$Layout")) (by decide) rfl rfl (i := 5) (j := 3) rfl rfl (pc' := 197) rfl ?_
    show Go Z k 2 9 ((al2, Obj Z "java/util/ArrayList" [("java/util/AbstractList", "modCount", "I", (.int (0 : Int32))), ("java/util/ArrayList", "elementData", "[Ljava/lang/Object;", (.ref sv))]) :: (la2, Obj Z "com/example/workflow_net_analyzer/workflownetanalyzer/statespace/MarkingTable$Layout" [("com/example/workflow_net_analyzer/workflownetanalyzer/statespace/MarkingTable$Layout", "width", "I", (.int (2 ^ k').toInt32)), ("com/example/workflow_net_analyzer/workflownetanalyzer/statespace/MarkingTable$Layout", "widthShift", "I", (.int s1)), ("com/example/workflow_net_analyzer/workflownetanalyzer/statespace/MarkingTable$Layout", "longShift", "I", (.int s2)), ("com/example/workflow_net_analyzer/workflownetanalyzer/statespace/MarkingTable$Layout", "mask", "J", (.long (mk ((2 ^ k').toInt32)))), ("com/example/workflow_net_analyzer/workflownetanalyzer/statespace/MarkingTable$Layout", "stride", "I", (.int s3)), ("com/example/workflow_net_analyzer/workflownetanalyzer/statespace/MarkingTable$Layout", "chunkShift", "I", (.int s4))]) :: (la, Obj Z "com/example/workflow_net_analyzer/workflownetanalyzer/statespace/MarkingTable$Layout" [("com/example/workflow_net_analyzer/workflownetanalyzer/statespace/MarkingTable$Layout", "width", "I", (.int (2 ^ k0).toInt32)), ("com/example/workflow_net_analyzer/workflownetanalyzer/statespace/MarkingTable$Layout", "widthShift", "I", (.int a1)), ("com/example/workflow_net_analyzer/workflownetanalyzer/statespace/MarkingTable$Layout", "longShift", "I", (.int a2)), ("com/example/workflow_net_analyzer/workflownetanalyzer/statespace/MarkingTable$Layout", "mask", "J", (.long (mk ((2 ^ k0).toInt32)))), ("com/example/workflow_net_analyzer/workflownetanalyzer/statespace/MarkingTable$Layout", "stride", "I", (.int a3)), ("com/example/workflow_net_analyzer/workflownetanalyzer/statespace/MarkingTable$Layout", "chunkShift", "I", (.int a4))]) :: (sa, ArL Z (List.replicate 1024 0)) :: (al, Obj Z "java/util/ArrayList" [("java/util/AbstractList", "modCount", "I", (.int (0 : Int32))), ("java/util/ArrayList", "elementData", "[Ljava/lang/Object;", (.ref sv))]) :: (mt, Obj Z "com/example/workflow_net_analyzer/workflownetanalyzer/statespace/MarkingTable" [("com/example/workflow_net_analyzer/workflownetanalyzer/statespace/MarkingTable", "chunks", "Ljava/util/List;", (.ref al)), ("com/example/workflow_net_analyzer/workflownetanalyzer/statespace/MarkingTable", "slots", "[J", (.ref sa)), ("com/example/workflow_net_analyzer/workflownetanalyzer/statespace/MarkingTable", "places", "I", (.int pl)), ("com/example/workflow_net_analyzer/workflownetanalyzer/statespace/MarkingTable", "layout", "Lcom/example/workflow_net_analyzer/workflownetanalyzer/statespace/MarkingTable$Layout;", (.ref la2)), ("com/example/workflow_net_analyzer/workflownetanalyzer/statespace/MarkingTable", "size", "I", (.int (0 : Int32)))]) :: F) 197 #[.val (.ref mt), .val (.long t), .second, .val (.int (2 ^ k').toInt32), .val (.ref la), .val (.ref la2), .val (.ref al2), .val (.int (0 : Int32)), .unset, .unset, .unset] []
    refine s_aloadn H d10_197 rfl rfl (pc' := 198) rfl ?_
    refine s_aload H d10_198 rfl rfl (pc' := 200) rfl ?_
    refine s_putf H d10_200 (mem (i := 33) rfl) (Or.inl (mem (i := 34) rfl)) (mem (i := 1) rfl) (ty := (.object "java/util/List")) (by decide) rfl rfl (i := 5) (j := 0) rfl rfl (pc' := 203) rfl ?_
    show Go Z k 2 9 ((al2, Obj Z "java/util/ArrayList" [("java/util/AbstractList", "modCount", "I", (.int (0 : Int32))), ("java/util/ArrayList", "elementData", "[Ljava/lang/Object;", (.ref sv))]) :: (la2, Obj Z "com/example/workflow_net_analyzer/workflownetanalyzer/statespace/MarkingTable$Layout" [("com/example/workflow_net_analyzer/workflownetanalyzer/statespace/MarkingTable$Layout", "width", "I", (.int (2 ^ k').toInt32)), ("com/example/workflow_net_analyzer/workflownetanalyzer/statespace/MarkingTable$Layout", "widthShift", "I", (.int s1)), ("com/example/workflow_net_analyzer/workflownetanalyzer/statespace/MarkingTable$Layout", "longShift", "I", (.int s2)), ("com/example/workflow_net_analyzer/workflownetanalyzer/statespace/MarkingTable$Layout", "mask", "J", (.long (mk ((2 ^ k').toInt32)))), ("com/example/workflow_net_analyzer/workflownetanalyzer/statespace/MarkingTable$Layout", "stride", "I", (.int s3)), ("com/example/workflow_net_analyzer/workflownetanalyzer/statespace/MarkingTable$Layout", "chunkShift", "I", (.int s4))]) :: (la, Obj Z "com/example/workflow_net_analyzer/workflownetanalyzer/statespace/MarkingTable$Layout" [("com/example/workflow_net_analyzer/workflownetanalyzer/statespace/MarkingTable$Layout", "width", "I", (.int (2 ^ k0).toInt32)), ("com/example/workflow_net_analyzer/workflownetanalyzer/statespace/MarkingTable$Layout", "widthShift", "I", (.int a1)), ("com/example/workflow_net_analyzer/workflownetanalyzer/statespace/MarkingTable$Layout", "longShift", "I", (.int a2)), ("com/example/workflow_net_analyzer/workflownetanalyzer/statespace/MarkingTable$Layout", "mask", "J", (.long (mk ((2 ^ k0).toInt32)))), ("com/example/workflow_net_analyzer/workflownetanalyzer/statespace/MarkingTable$Layout", "stride", "I", (.int a3)), ("com/example/workflow_net_analyzer/workflownetanalyzer/statespace/MarkingTable$Layout", "chunkShift", "I", (.int a4))]) :: (sa, ArL Z (List.replicate 1024 0)) :: (al, Obj Z "java/util/ArrayList" [("java/util/AbstractList", "modCount", "I", (.int (0 : Int32))), ("java/util/ArrayList", "elementData", "[Ljava/lang/Object;", (.ref sv))]) :: (mt, Obj Z "com/example/workflow_net_analyzer/workflownetanalyzer/statespace/MarkingTable" [("com/example/workflow_net_analyzer/workflownetanalyzer/statespace/MarkingTable", "chunks", "Ljava/util/List;", (.ref al2)), ("com/example/workflow_net_analyzer/workflownetanalyzer/statespace/MarkingTable", "slots", "[J", (.ref sa)), ("com/example/workflow_net_analyzer/workflownetanalyzer/statespace/MarkingTable", "places", "I", (.int pl)), ("com/example/workflow_net_analyzer/workflownetanalyzer/statespace/MarkingTable", "layout", "Lcom/example/workflow_net_analyzer/workflownetanalyzer/statespace/MarkingTable$Layout;", (.ref la2)), ("com/example/workflow_net_analyzer/workflownetanalyzer/statespace/MarkingTable", "size", "I", (.int (0 : Int32)))]) :: F) 203 #[.val (.ref mt), .val (.long t), .second, .val (.int (2 ^ k').toInt32), .val (.ref la), .val (.ref la2), .val (.ref al2), .val (.int (0 : Int32)), .unset, .unset, .unset] []
    refine s_aloadn H d10_203 rfl rfl (pc' := 204) rfl ?_
    refine s_aloadn H d10_204 rfl rfl (pc' := 205) rfl ?_
    refine s_getf H d10_205 (mem (i := 36) rfl) (i := 5) (j := 1) rfl rfl (pc' := 208) rfl ?_
    refine s_alenL H d10_208 (i := 3) rfl (z := (1024 : Int32)) (by simp; rfl) (pc' := 209) rfl ?_
    refine s_newarr_long H d10_209 (mem (i := 35) rfl) (by decide) (cap := 1024) (by decide) (by decide) (cn' := 3) (sn' := 1033) rfl rfl (by decide) (by decide) (pc' := 211) rfl (fun sa2 => ?_)
    show Go Z k 3 1033 ((sa2, ArL Z (List.replicate 1024 0)) :: (al2, Obj Z "java/util/ArrayList" [("java/util/AbstractList", "modCount", "I", (.int (0 : Int32))), ("java/util/ArrayList", "elementData", "[Ljava/lang/Object;", (.ref sv))]) :: (la2, Obj Z "com/example/workflow_net_analyzer/workflownetanalyzer/statespace/MarkingTable$Layout" [("com/example/workflow_net_analyzer/workflownetanalyzer/statespace/MarkingTable$Layout", "width", "I", (.int (2 ^ k').toInt32)), ("com/example/workflow_net_analyzer/workflownetanalyzer/statespace/MarkingTable$Layout", "widthShift", "I", (.int s1)), ("com/example/workflow_net_analyzer/workflownetanalyzer/statespace/MarkingTable$Layout", "longShift", "I", (.int s2)), ("com/example/workflow_net_analyzer/workflownetanalyzer/statespace/MarkingTable$Layout", "mask", "J", (.long (mk ((2 ^ k').toInt32)))), ("com/example/workflow_net_analyzer/workflownetanalyzer/statespace/MarkingTable$Layout", "stride", "I", (.int s3)), ("com/example/workflow_net_analyzer/workflownetanalyzer/statespace/MarkingTable$Layout", "chunkShift", "I", (.int s4))]) :: (la, Obj Z "com/example/workflow_net_analyzer/workflownetanalyzer/statespace/MarkingTable$Layout" [("com/example/workflow_net_analyzer/workflownetanalyzer/statespace/MarkingTable$Layout", "width", "I", (.int (2 ^ k0).toInt32)), ("com/example/workflow_net_analyzer/workflownetanalyzer/statespace/MarkingTable$Layout", "widthShift", "I", (.int a1)), ("com/example/workflow_net_analyzer/workflownetanalyzer/statespace/MarkingTable$Layout", "longShift", "I", (.int a2)), ("com/example/workflow_net_analyzer/workflownetanalyzer/statespace/MarkingTable$Layout", "mask", "J", (.long (mk ((2 ^ k0).toInt32)))), ("com/example/workflow_net_analyzer/workflownetanalyzer/statespace/MarkingTable$Layout", "stride", "I", (.int a3)), ("com/example/workflow_net_analyzer/workflownetanalyzer/statespace/MarkingTable$Layout", "chunkShift", "I", (.int a4))]) :: (sa, ArL Z (List.replicate 1024 0)) :: (al, Obj Z "java/util/ArrayList" [("java/util/AbstractList", "modCount", "I", (.int (0 : Int32))), ("java/util/ArrayList", "elementData", "[Ljava/lang/Object;", (.ref sv))]) :: (mt, Obj Z "com/example/workflow_net_analyzer/workflownetanalyzer/statespace/MarkingTable" [("com/example/workflow_net_analyzer/workflownetanalyzer/statespace/MarkingTable", "chunks", "Ljava/util/List;", (.ref al2)), ("com/example/workflow_net_analyzer/workflownetanalyzer/statespace/MarkingTable", "slots", "[J", (.ref sa)), ("com/example/workflow_net_analyzer/workflownetanalyzer/statespace/MarkingTable", "places", "I", (.int pl)), ("com/example/workflow_net_analyzer/workflownetanalyzer/statespace/MarkingTable", "layout", "Lcom/example/workflow_net_analyzer/workflownetanalyzer/statespace/MarkingTable$Layout;", (.ref la2)), ("com/example/workflow_net_analyzer/workflownetanalyzer/statespace/MarkingTable", "size", "I", (.int (0 : Int32)))]) :: F) 211 #[.val (.ref mt), .val (.long t), .second, .val (.int (2 ^ k').toInt32), .val (.ref la), .val (.ref la2), .val (.ref al2), .val (.int (0 : Int32)), .unset, .unset, .unset] [(.ref sa2), (.ref mt)]
    refine s_putf H d10_211 (mem (i := 36) rfl) (Or.inl (mem (i := 37) rfl)) (mem (i := 1) rfl) (ty := (.array .long)) (by decide) rfl rfl (i := 6) (j := 1) rfl rfl (pc' := 214) rfl ?_
    show Go Z k 3 1033 ((sa2, ArL Z (List.replicate 1024 0)) :: (al2, Obj Z "java/util/ArrayList" [("java/util/AbstractList", "modCount", "I", (.int (0 : Int32))), ("java/util/ArrayList", "elementData", "[Ljava/lang/Object;", (.ref sv))]) :: (la2, Obj Z "com/example/workflow_net_analyzer/workflownetanalyzer/statespace/MarkingTable$Layout" [("com/example/workflow_net_analyzer/workflownetanalyzer/statespace/MarkingTable$Layout", "width", "I", (.int (2 ^ k').toInt32)), ("com/example/workflow_net_analyzer/workflownetanalyzer/statespace/MarkingTable$Layout", "widthShift", "I", (.int s1)), ("com/example/workflow_net_analyzer/workflownetanalyzer/statespace/MarkingTable$Layout", "longShift", "I", (.int s2)), ("com/example/workflow_net_analyzer/workflownetanalyzer/statespace/MarkingTable$Layout", "mask", "J", (.long (mk ((2 ^ k').toInt32)))), ("com/example/workflow_net_analyzer/workflownetanalyzer/statespace/MarkingTable$Layout", "stride", "I", (.int s3)), ("com/example/workflow_net_analyzer/workflownetanalyzer/statespace/MarkingTable$Layout", "chunkShift", "I", (.int s4))]) :: (la, Obj Z "com/example/workflow_net_analyzer/workflownetanalyzer/statespace/MarkingTable$Layout" [("com/example/workflow_net_analyzer/workflownetanalyzer/statespace/MarkingTable$Layout", "width", "I", (.int (2 ^ k0).toInt32)), ("com/example/workflow_net_analyzer/workflownetanalyzer/statespace/MarkingTable$Layout", "widthShift", "I", (.int a1)), ("com/example/workflow_net_analyzer/workflownetanalyzer/statespace/MarkingTable$Layout", "longShift", "I", (.int a2)), ("com/example/workflow_net_analyzer/workflownetanalyzer/statespace/MarkingTable$Layout", "mask", "J", (.long (mk ((2 ^ k0).toInt32)))), ("com/example/workflow_net_analyzer/workflownetanalyzer/statespace/MarkingTable$Layout", "stride", "I", (.int a3)), ("com/example/workflow_net_analyzer/workflownetanalyzer/statespace/MarkingTable$Layout", "chunkShift", "I", (.int a4))]) :: (sa, ArL Z (List.replicate 1024 0)) :: (al, Obj Z "java/util/ArrayList" [("java/util/AbstractList", "modCount", "I", (.int (0 : Int32))), ("java/util/ArrayList", "elementData", "[Ljava/lang/Object;", (.ref sv))]) :: (mt, Obj Z "com/example/workflow_net_analyzer/workflownetanalyzer/statespace/MarkingTable" [("com/example/workflow_net_analyzer/workflownetanalyzer/statespace/MarkingTable", "chunks", "Ljava/util/List;", (.ref al2)), ("com/example/workflow_net_analyzer/workflownetanalyzer/statespace/MarkingTable", "slots", "[J", (.ref sa2)), ("com/example/workflow_net_analyzer/workflownetanalyzer/statespace/MarkingTable", "places", "I", (.int pl)), ("com/example/workflow_net_analyzer/workflownetanalyzer/statespace/MarkingTable", "layout", "Lcom/example/workflow_net_analyzer/workflownetanalyzer/statespace/MarkingTable$Layout;", (.ref la2)), ("com/example/workflow_net_analyzer/workflownetanalyzer/statespace/MarkingTable", "size", "I", (.int (0 : Int32)))]) :: F) 214 #[.val (.ref mt), .val (.long t), .second, .val (.int (2 ^ k').toInt32), .val (.ref la), .val (.ref la2), .val (.ref al2), .val (.int (0 : Int32)), .unset, .unset, .unset] []
    refine s_iconst H d10_214 (z := (0 : Int32)) (by decide) (pc' := 215) rfl ?_
    refine s_istore H d10_215 (L' := fun z => #[.val (.ref mt), .val (.long t), .second, .val (.int (2 ^ k').toInt32), .val (.ref la), .val (.ref la2), .val (.ref al2), .val (.int z), .unset, .unset, .unset]) (fun _ => rfl) (pc' := 217) rfl (fun z0 hz => ?_)
    subst z0
    refine s_iload H d10_217 rfl (pc' := 219) rfl ?_
    refine s_aloadn H d10_219 rfl rfl (pc' := 220) rfl ?_
    refine s_getf H d10_220 (mem (i := 80) rfl) (i := 6) (j := 4) rfl rfl (pc' := 223) rfl ?_
    refine s_icmp H d10_223 (py := 272) (pc' := 226) q_ge (by decide) rfl (fun c223 => ?_) (fun c223 => ?_)
    · refine Go.perm own_pw ?_
      exact s_vret H d10_272 (by decide) (by decide) (⟨k', la2, sa2, al2, _, _, _, _, _, hW, rfl, rfl⟩)
    · exact absurd c223 (by decide)
  · exact absurd c67 (by decide)
set_option maxRecDepth 65536 in
set_option maxHeartbeats 40000000 in
theorem w_loop {Z : State} {k : Cx} {F : Hp} {sv mt la sa al : Addr} {pl a1 a2 a3 a4 : Int32} {t : Int64} {k0 : Nat} (d k1 : Nat) (H : Ok Z k ({ frames := 4, cells := 3, slots := 1033, locals := 49 } : Room) (fun v M' => ∃ (k' : Nat) (la2 sa2 al2 : Addr) (b1 b2 b3 b4 : Int32) (F' : Hp), WR t k0 k' ∧ v = none ∧ M' = ((la2, Obj Z "com/example/workflow_net_analyzer/workflownetanalyzer/statespace/MarkingTable$Layout" [("com/example/workflow_net_analyzer/workflownetanalyzer/statespace/MarkingTable$Layout", "width", "I", (.int (2 ^ k').toInt32)), ("com/example/workflow_net_analyzer/workflownetanalyzer/statespace/MarkingTable$Layout", "widthShift", "I", (.int b1)), ("com/example/workflow_net_analyzer/workflownetanalyzer/statespace/MarkingTable$Layout", "longShift", "I", (.int b2)), ("com/example/workflow_net_analyzer/workflownetanalyzer/statespace/MarkingTable$Layout", "mask", "J", (.long (mk ((2 ^ k').toInt32)))), ("com/example/workflow_net_analyzer/workflownetanalyzer/statespace/MarkingTable$Layout", "stride", "I", (.int b3)), ("com/example/workflow_net_analyzer/workflownetanalyzer/statespace/MarkingTable$Layout", "chunkShift", "I", (.int b4))]) :: (sa2, ArL Z (List.replicate 1024 0)) :: (al2, Obj Z "java/util/ArrayList" [("java/util/AbstractList", "modCount", "I", (.int (0 : Int32))), ("java/util/ArrayList", "elementData", "[Ljava/lang/Object;", (.ref sv))]) :: (mt, Obj Z "com/example/workflow_net_analyzer/workflownetanalyzer/statespace/MarkingTable" [("com/example/workflow_net_analyzer/workflownetanalyzer/statespace/MarkingTable", "chunks", "Ljava/util/List;", (.ref al2)), ("com/example/workflow_net_analyzer/workflownetanalyzer/statespace/MarkingTable", "slots", "[J", (.ref sa2)), ("com/example/workflow_net_analyzer/workflownetanalyzer/statespace/MarkingTable", "places", "I", (.int pl)), ("com/example/workflow_net_analyzer/workflownetanalyzer/statespace/MarkingTable", "layout", "Lcom/example/workflow_net_analyzer/workflownetanalyzer/statespace/MarkingTable$Layout;", (.ref la2)), ("com/example/workflow_net_analyzer/workflownetanalyzer/statespace/MarkingTable", "size", "I", (.int (0 : Int32)))]) :: F')) y_10 prog_50_method_9_code 11 none) (hS : Sta Z Z.heap "java/util/ArrayList" "DEFAULTCAPACITY_EMPTY_ELEMENTDATA" "[Ljava/lang/Object;" (.ref sv)) (hk0 : k0 ≤ k1) (hd : k1 + d = 6) (hj : ∀ j, k0 ≤ j → j < k1 → ¬ ush t (2 ^ j).toInt32 = 0) : Go Z k 0 0 ((la, Obj Z "com/example/workflow_net_analyzer/workflownetanalyzer/statespace/MarkingTable$Layout" [("com/example/workflow_net_analyzer/workflownetanalyzer/statespace/MarkingTable$Layout", "width", "I", (.int (2 ^ k0).toInt32)), ("com/example/workflow_net_analyzer/workflownetanalyzer/statespace/MarkingTable$Layout", "widthShift", "I", (.int a1)), ("com/example/workflow_net_analyzer/workflownetanalyzer/statespace/MarkingTable$Layout", "longShift", "I", (.int a2)), ("com/example/workflow_net_analyzer/workflownetanalyzer/statespace/MarkingTable$Layout", "mask", "J", (.long (mk ((2 ^ k0).toInt32)))), ("com/example/workflow_net_analyzer/workflownetanalyzer/statespace/MarkingTable$Layout", "stride", "I", (.int a3)), ("com/example/workflow_net_analyzer/workflownetanalyzer/statespace/MarkingTable$Layout", "chunkShift", "I", (.int a4))]) :: (sa, ArL Z (List.replicate 1024 0)) :: (al, Obj Z "java/util/ArrayList" [("java/util/AbstractList", "modCount", "I", (.int (0 : Int32))), ("java/util/ArrayList", "elementData", "[Ljava/lang/Object;", (.ref sv))]) :: (mt, Obj Z "com/example/workflow_net_analyzer/workflownetanalyzer/statespace/MarkingTable" [("com/example/workflow_net_analyzer/workflownetanalyzer/statespace/MarkingTable", "chunks", "Ljava/util/List;", (.ref al)), ("com/example/workflow_net_analyzer/workflownetanalyzer/statespace/MarkingTable", "slots", "[J", (.ref sa)), ("com/example/workflow_net_analyzer/workflownetanalyzer/statespace/MarkingTable", "places", "I", (.int pl)), ("com/example/workflow_net_analyzer/workflownetanalyzer/statespace/MarkingTable", "layout", "Lcom/example/workflow_net_analyzer/workflownetanalyzer/statespace/MarkingTable$Layout;", (.ref la)), ("com/example/workflow_net_analyzer/workflownetanalyzer/statespace/MarkingTable", "size", "I", (.int (0 : Int32)))]) :: F) 8 #[.val (.ref mt), .val (.long t), .second, .val (.int (2 ^ k1).toInt32), .unset, .unset, .unset, .unset, .unset, .unset, .unset] [] := by
  induction d generalizing k1 with
  | zero =>
    refine s_iloadn H d10_8 rfl (pc' := 9) rfl ?_
    refine s_bipush H d10_9 (z := (64 : Int32)) (by decide) (pc' := 11) rfl ?_
    refine s_icmp H d10_11 (py := 29) (pc' := 14) q_ge (by decide) rfl (fun c11 => ?_) (fun c11 => ?_)
    · exact w29 k1 H hS ⟨hk0, by omega, hj, Or.inl (by omega)⟩
    · exact absurd ((pw_64 (by omega)).mpr (by omega)) c11
  | succ d ih =>
    refine s_iloadn H d10_8 rfl (pc' := 9) rfl ?_
    refine s_bipush H d10_9 (z := (64 : Int32)) (by decide) (pc' := 11) rfl ?_
    refine s_icmp H d10_11 (py := 29) (pc' := 14) q_ge (by decide) rfl (fun c11 => ?_) (fun c11 => ?_)
    · exact absurd ((pw_64 (by omega)).mp c11) (by omega)
    · refine s_lloadn H d10_14 rfl (pc' := 15) rfl ?_
      refine s_iloadn H d10_15 rfl (pc' := 16) rfl ?_
      refine s_lushr H d10_16 (pc' := 17) rfl ?_
      refine s_lconst H d10_17 (z := (0 : Int64)) (by decide) (pc' := 18) rfl ?_
      refine s_lcmp H d10_18 (pc' := 19) rfl ?_
      refine s_if H d10_19 (py := 29) (pc' := 22) l_eq (by decide) rfl (fun c19 => ?_) (fun c19 => ?_)
      · exact w29 k1 H hS ⟨hk0, by omega, hj, Or.inr c19⟩
      · refine s_iloadn H d10_22 rfl (pc' := 23) rfl ?_
        refine s_iconst H d10_23 (z := (2 : Int32)) (by decide) (pc' := 24) rfl ?_
        refine s_imul H d10_24 (pc' := 25) rfl ?_
        rw [pw_dbl]
        refine s_istoren H d10_25 (L' := fun z => #[.val (.ref mt), .val (.long t), .second, .val (.int z), .unset, .unset, .unset, .unset, .unset, .unset, .unset]) (fun _ => rfl) (pc' := 26) rfl (fun z0 hz => ?_)
        subst z0
        refine s_goto H d10_26 (pc' := 8) (by decide) ?_
        refine ih (k1 + 1) (by omega) (by omega) (fun j h1 h2 => ?_)
        rcases Nat.lt_or_ge j k1 with lt | ge
        · exact hj j h1 lt
        · have : j = k1 := by omega
          subst this; exact c19
set_option maxRecDepth 65536 in
set_option maxHeartbeats 40000000 in
theorem met_wd {Z : State} (HT : Tb Z) {F : Hp} {sv : Addr} (mt la sa al : Addr) (pl a1 a2 a3 a4 : Int32) (t : Int64) (k0 : Nat) (hS : Sta Z Z.heap "java/util/ArrayList" "DEFAULTCAPACITY_EMPTY_ELEMENTDATA" "[Ljava/lang/Object;" (.ref sv)) (hk : k0 ≤ 6) : Met Z y_10 prog_50_method_9_code 11 none ({ frames := 4, cells := 3, slots := 1033, locals := 49 } : Room) [(.ref mt), (.long t)] ((la, Obj Z "com/example/workflow_net_analyzer/workflownetanalyzer/statespace/MarkingTable$Layout" [("com/example/workflow_net_analyzer/workflownetanalyzer/statespace/MarkingTable$Layout", "width", "I", (.int (2 ^ k0).toInt32)), ("com/example/workflow_net_analyzer/workflownetanalyzer/statespace/MarkingTable$Layout", "widthShift", "I", (.int a1)), ("com/example/workflow_net_analyzer/workflownetanalyzer/statespace/MarkingTable$Layout", "longShift", "I", (.int a2)), ("com/example/workflow_net_analyzer/workflownetanalyzer/statespace/MarkingTable$Layout", "mask", "J", (.long (mk ((2 ^ k0).toInt32)))), ("com/example/workflow_net_analyzer/workflownetanalyzer/statespace/MarkingTable$Layout", "stride", "I", (.int a3)), ("com/example/workflow_net_analyzer/workflownetanalyzer/statespace/MarkingTable$Layout", "chunkShift", "I", (.int a4))]) :: (sa, ArL Z (List.replicate 1024 0)) :: (al, Obj Z "java/util/ArrayList" [("java/util/AbstractList", "modCount", "I", (.int (0 : Int32))), ("java/util/ArrayList", "elementData", "[Ljava/lang/Object;", (.ref sv))]) :: (mt, Obj Z "com/example/workflow_net_analyzer/workflownetanalyzer/statespace/MarkingTable" [("com/example/workflow_net_analyzer/workflownetanalyzer/statespace/MarkingTable", "chunks", "Ljava/util/List;", (.ref al)), ("com/example/workflow_net_analyzer/workflownetanalyzer/statespace/MarkingTable", "slots", "[J", (.ref sa)), ("com/example/workflow_net_analyzer/workflownetanalyzer/statespace/MarkingTable", "places", "I", (.int pl)), ("com/example/workflow_net_analyzer/workflownetanalyzer/statespace/MarkingTable", "layout", "Lcom/example/workflow_net_analyzer/workflownetanalyzer/statespace/MarkingTable$Layout;", (.ref la)), ("com/example/workflow_net_analyzer/workflownetanalyzer/statespace/MarkingTable", "size", "I", (.int (0 : Int32)))]) :: F) (fun v M' => ∃ (k' : Nat) (la2 sa2 al2 : Addr) (b1 b2 b3 b4 : Int32) (F' : Hp), WR t k0 k' ∧ v = none ∧ M' = ((la2, Obj Z "com/example/workflow_net_analyzer/workflownetanalyzer/statespace/MarkingTable$Layout" [("com/example/workflow_net_analyzer/workflownetanalyzer/statespace/MarkingTable$Layout", "width", "I", (.int (2 ^ k').toInt32)), ("com/example/workflow_net_analyzer/workflownetanalyzer/statespace/MarkingTable$Layout", "widthShift", "I", (.int b1)), ("com/example/workflow_net_analyzer/workflownetanalyzer/statespace/MarkingTable$Layout", "longShift", "I", (.int b2)), ("com/example/workflow_net_analyzer/workflownetanalyzer/statespace/MarkingTable$Layout", "mask", "J", (.long (mk ((2 ^ k').toInt32)))), ("com/example/workflow_net_analyzer/workflownetanalyzer/statespace/MarkingTable$Layout", "stride", "I", (.int b3)), ("com/example/workflow_net_analyzer/workflownetanalyzer/statespace/MarkingTable$Layout", "chunkShift", "I", (.int b4))]) :: (sa2, ArL Z (List.replicate 1024 0)) :: (al2, Obj Z "java/util/ArrayList" [("java/util/AbstractList", "modCount", "I", (.int (0 : Int32))), ("java/util/ArrayList", "elementData", "[Ljava/lang/Object;", (.ref sv))]) :: (mt, Obj Z "com/example/workflow_net_analyzer/workflownetanalyzer/statespace/MarkingTable" [("com/example/workflow_net_analyzer/workflownetanalyzer/statespace/MarkingTable", "chunks", "Ljava/util/List;", (.ref al2)), ("com/example/workflow_net_analyzer/workflownetanalyzer/statespace/MarkingTable", "slots", "[J", (.ref sa2)), ("com/example/workflow_net_analyzer/workflownetanalyzer/statespace/MarkingTable", "places", "I", (.int pl)), ("com/example/workflow_net_analyzer/workflownetanalyzer/statespace/MarkingTable", "layout", "Lcom/example/workflow_net_analyzer/workflownetanalyzer/statespace/MarkingTable$Layout;", (.ref la2)), ("com/example/workflow_net_analyzer/workflownetanalyzer/statespace/MarkingTable", "size", "I", (.int (0 : Int32)))]) :: F')) := by
  refine Met.of HT pl_10 (Ls := #[.val (.ref mt), .val (.long t), .second, .unset, .unset, .unset, .unset, .unset, .unset, .unset, .unset]) (fun m => by first | (simp [entryFrame, mkF, argsToLocals, Value.category]; done) | rfl) (fun k H => ?_)
  refine s_aloadn H d10_0 rfl rfl (pc' := 1) rfl ?_
  refine s_getf H d10_1 (mem (i := 72) rfl) (i := 3) (j := 3) rfl rfl (pc' := 4) rfl ?_
  refine s_getfR H d10_4 (mem (i := 79) rfl) (i := 0) (j := 0) rfl rfl (pc' := 7) rfl ?_
  refine s_istoren H d10_7 (L' := fun z => #[.val (.ref mt), .val (.long t), .second, .val (.int z), .unset, .unset, .unset, .unset, .unset, .unset, .unset]) (fun _ => rfl) (pc' := 8) rfl (fun z0 hz => ?_)
  subst z0
  exact w_loop (6 - k0) k0 H hS (Nat.le_refl _) (by omega) (fun j h1 h2 => absurd h1 (by omega))
def exf (t w : Int64) : Int32 := if t < 0 then (if ush w 32 = 0 then 0 else 1) else if ush w 1 = 0 then (if t ≤ 1 then 1 else 0) else if ush w 2 = 0 then (if t ≤ 3 then 1 else 0) else if ush w 4 = 0 then (if t ≤ 15 then 1 else 0) else if ush w 8 = 0 then (if t ≤ 255 then 1 else 0) else if ush w 16 = 0 then (if t ≤ 65535 then 1 else 0) else if ush w 32 = 0 then (if t ≤ 4294967295 then 1 else 0) else 1
theorem own_ans (t w : Int64) (k : Nat) (hW : WR w 0 k) : (if t &&& (mk (2 ^ k).toInt32 ^^^ (-1 : Int64)) = 0 then (1 : Int32) else 0) = exf t w := by
  obtain ⟨-, h6, hj, hk⟩ := hW
  have u1 := ush0 w 1 1 (by decide) (by decide)
  have u2 := ush0 w 2 2 (by decide) (by decide)
  have u4 := ush0 w 4 4 (by decide) (by decide)
  have u8 := ush0 w 8 8 (by decide) (by decide)
  have u16 := ush0 w 16 16 (by decide) (by decide)
  have u32 := ush0 w 32 32 (by decide) (by decide)
  simp only [show ((2 ^ 1 : Nat) : Int) = 2 from by decide, show ((2 ^ 2 : Nat) : Int) = 4 from by decide, show ((2 ^ 4 : Nat) : Int) = 16 from by decide, show ((2 ^ 8 : Nat) : Int) = 256 from by decide, show ((2 ^ 16 : Nat) : Int) = 65536 from by decide, show ((2 ^ 32 : Nat) : Int) = 4294967296 from by decide] at u1 u2 u4 u8 u16 u32
  have t0 : t < 0 ↔ t.toInt < 0 := by rw [Int64.lt_iff_toInt_lt]; rfl
  have tl : ∀ m : Int64, t ≤ m ↔ t.toInt ≤ m.toInt := fun m => Int64.le_iff_toInt_le
  unfold exf
  simp only [u1, u2, u4, u8, u16, u32, t0, tl, show (1 : Int64).toInt = 1 from by decide, show (3 : Int64).toInt = 3 from by decide, show (15 : Int64).toInt = 15 from by decide, show (255 : Int64).toInt = 255 from by decide, show (65535 : Int64).toInt = 65535 from by decide, show (4294967295 : Int64).toInt = 4294967295 from by decide]
  have n0 : 0 < k → ¬ w.toInt % 18446744073709551616 < 2 := fun h => fun q => hj 0 (by omega) h (u1.mpr q)
  have n1 : 1 < k → ¬ w.toInt % 18446744073709551616 < 4 := fun h => fun q => hj 1 (by omega) h (u2.mpr q)
  have n2 : 2 < k → ¬ w.toInt % 18446744073709551616 < 16 := fun h => fun q => hj 2 (by omega) h (u4.mpr q)
  have n3 : 3 < k → ¬ w.toInt % 18446744073709551616 < 256 := fun h => fun q => hj 3 (by omega) h (u8.mpr q)
  have n4 : 4 < k → ¬ w.toInt % 18446744073709551616 < 65536 := fun h => fun q => hj 4 (by omega) h (u16.mpr q)
  have n5 : 5 < k → ¬ w.toInt % 18446744073709551616 < 4294967296 := fun h => fun q => hj 5 (by omega) h (u32.mpr q)
  have hc : k = 0 ∨ k = 1 ∨ k = 2 ∨ k = 3 ∨ k = 4 ∨ k = 5 ∨ k = 6 := by omega
  generalize w.toInt % 18446744073709551616 = V at *
  rcases hc with rfl | rfl | rfl | rfl | rfl | rfl | rfl
  · have e : V < 2 := u1.mp (hk.resolve_left (by decide))
    have m := and_mask t (mk (2 ^ 0).toInt32) 1 (by decide) (by decide)
    simp only [show ((2 ^ 1 : Nat) : Int) = 2 from by decide] at m
    simp only [m]
    split <;> split <;> (try split) <;> (try split) <;> first | rfl | omega
  · have e : V < 4 := u2.mp (hk.resolve_left (by decide))
    have nn := n0 (by decide)
    have m := and_mask t (mk (2 ^ 1).toInt32) 2 (by decide) (by decide)
    simp only [show ((2 ^ 2 : Nat) : Int) = 4 from by decide] at m
    simp only [m, nn, if_false]
    split <;> split <;> (try split) <;> (try split) <;> first | rfl | omega
  · have e : V < 16 := u4.mp (hk.resolve_left (by decide))
    have nn := n0 (by decide)
    have nn1 := n1 (by decide)
    have m := and_mask t (mk (2 ^ 2).toInt32) 4 (by decide) (by decide)
    simp only [show ((2 ^ 4 : Nat) : Int) = 16 from by decide] at m
    simp only [m, nn, nn1, if_false]
    split <;> split <;> (try split) <;> (try split) <;> first | rfl | omega
  · have e : V < 256 := u8.mp (hk.resolve_left (by decide))
    have nn := n0 (by decide)
    have nn1 := n1 (by decide)
    have nn2 := n2 (by decide)
    have m := and_mask t (mk (2 ^ 3).toInt32) 8 (by decide) (by decide)
    simp only [show ((2 ^ 8 : Nat) : Int) = 256 from by decide] at m
    simp only [m, nn, nn1, nn2, if_false]
    split <;> split <;> (try split) <;> (try split) <;> first | rfl | omega
  · have e : V < 65536 := u16.mp (hk.resolve_left (by decide))
    have nn := n0 (by decide)
    have nn1 := n1 (by decide)
    have nn2 := n2 (by decide)
    have nn3 := n3 (by decide)
    have m := and_mask t (mk (2 ^ 4).toInt32) 16 (by decide) (by decide)
    simp only [show ((2 ^ 16 : Nat) : Int) = 65536 from by decide] at m
    simp only [m, nn, nn1, nn2, nn3, if_false]
    split <;> split <;> (try split) <;> (try split) <;> first | rfl | omega
  · have e : V < 4294967296 := u32.mp (hk.resolve_left (by decide))
    have nn := n0 (by decide)
    have nn1 := n1 (by decide)
    have nn2 := n2 (by decide)
    have nn3 := n3 (by decide)
    have nn4 := n4 (by decide)
    have m := and_mask t (mk (2 ^ 5).toInt32) 32 (by decide) (by decide)
    simp only [show ((2 ^ 32 : Nat) : Int) = 4294967296 from by decide] at m
    simp only [m, nn, nn1, nn2, nn3, nn4, if_false]
    split <;> split <;> (try split) <;> (try split) <;> first | rfl | omega
  · have nn := n0 (by decide)
    have nn1 := n1 (by decide)
    have nn2 := n2 (by decide)
    have nn3 := n3 (by decide)
    have nn4 := n4 (by decide)
    have nn5 := n5 (by decide)
    have e6 : mk (2 ^ 6 : Nat).toInt32 ^^^ (-1 : Int64) = 0 := by decide
    have m : t &&& (mk (2 ^ 6 : Nat).toInt32 ^^^ (-1 : Int64)) = 0 := by rw [e6]; simp
    simp only [m, nn, nn1, nn2, nn3, nn4, nn5, if_false, if_true]
    split <;> rfl
theorem WR0 : WR 0 0 0 := ⟨Nat.le_refl _, by decide, fun j _ h => absurd h (Nat.not_lt_zero j), Or.inr (by decide)⟩
set_option maxRecDepth 65536 in
set_option maxHeartbeats 40000000 in
theorem met_ex {Z : State} (HT : Tb Z) {F : Hp} (t w : Int64)  : Met Z y_12 method_3_code 6 (some .boolean) ({ frames := 0, cells := 0, slots := 0, locals := 0 } : Room) [(.long t), (.long w)] (F) (fun v M' => v = some (.int (exf t w)) ∧ M' = F) := by
  refine Met.of HT pl_12 (Ls := #[.val (.long t), .second, .val (.long w), .second, .unset, .unset]) (fun m => by first | (simp [entryFrame, mkF, argsToLocals, Value.category]; done) | rfl) (fun k H => ?_)
  refine s_lloadn H d12_0 rfl (pc' := 1) rfl ?_
  refine s_lconst H d12_1 (z := (0 : Int64)) (by decide) (pc' := 2) rfl ?_
  refine s_lcmp H d12_2 (pc' := 3) rfl ?_
  refine s_if H d12_3 (py := 21) (pc' := 6) l_ge (by decide) rfl (fun c3 => ?_) (fun c3 => ?_)
  · rw [← Int64.not_lt] at c3
    refine s_lloadn H d12_21 rfl (pc' := 22) rfl ?_
    refine s_iconst H d12_22 (z := (1 : Int32)) (by decide) (pc' := 23) rfl ?_
    refine s_lushr H d12_23 (pc' := 24) rfl ?_
    refine s_lconst H d12_24 (z := (0 : Int64)) (by decide) (pc' := 25) rfl ?_
    refine s_lcmp H d12_25 (pc' := 26) rfl ?_
    refine s_if H d12_26 (py := 35) (pc' := 29) l_ne (by decide) rfl (fun c26 => ?_) (fun c26 => ?_)
    · refine s_lloadn H d12_35 rfl (pc' := 36) rfl ?_
      refine s_iconst H d12_36 (z := (2 : Int32)) (by decide) (pc' := 37) rfl ?_
      refine s_lushr H d12_37 (pc' := 38) rfl ?_
      refine s_lconst H d12_38 (z := (0 : Int64)) (by decide) (pc' := 39) rfl ?_
      refine s_lcmp H d12_39 (pc' := 40) rfl ?_
      refine s_if H d12_40 (py := 51) (pc' := 43) l_ne (by decide) rfl (fun c40 => ?_) (fun c40 => ?_)
      · refine s_lloadn H d12_51 rfl (pc' := 52) rfl ?_
        refine s_iconst H d12_52 (z := (4 : Int32)) (by decide) (pc' := 53) rfl ?_
        refine s_lushr H d12_53 (pc' := 54) rfl ?_
        refine s_lconst H d12_54 (z := (0 : Int64)) (by decide) (pc' := 55) rfl ?_
        refine s_lcmp H d12_55 (pc' := 56) rfl ?_
        refine s_if H d12_56 (py := 67) (pc' := 59) l_ne (by decide) rfl (fun c56 => ?_) (fun c56 => ?_)
        · refine s_lloadn H d12_67 rfl (pc' := 68) rfl ?_
          refine s_bipush H d12_68 (z := (8 : Int32)) (by decide) (pc' := 70) rfl ?_
          refine s_lushr H d12_70 (pc' := 71) rfl ?_
          refine s_lconst H d12_71 (z := (0 : Int64)) (by decide) (pc' := 72) rfl ?_
          refine s_lcmp H d12_72 (pc' := 73) rfl ?_
          refine s_if H d12_73 (py := 84) (pc' := 76) l_ne (by decide) rfl (fun c73 => ?_) (fun c73 => ?_)
          · refine s_lloadn H d12_84 rfl (pc' := 85) rfl ?_
            refine s_bipush H d12_85 (z := (16 : Int32)) (by decide) (pc' := 87) rfl ?_
            refine s_lushr H d12_87 (pc' := 88) rfl ?_
            refine s_lconst H d12_88 (z := (0 : Int64)) (by decide) (pc' := 89) rfl ?_
            refine s_lcmp H d12_89 (pc' := 90) rfl ?_
            refine s_if H d12_90 (py := 101) (pc' := 93) l_ne (by decide) rfl (fun c90 => ?_) (fun c90 => ?_)
            · refine s_lloadn H d12_101 rfl (pc' := 102) rfl ?_
              refine s_bipush H d12_102 (z := (32 : Int32)) (by decide) (pc' := 104) rfl ?_
              refine s_lushr H d12_104 (pc' := 105) rfl ?_
              refine s_lconst H d12_105 (z := (0 : Int64)) (by decide) (pc' := 106) rfl ?_
              refine s_lcmp H d12_106 (pc' := 107) rfl ?_
              refine s_if H d12_107 (py := 118) (pc' := 110) l_ne (by decide) rfl (fun c107 => ?_) (fun c107 => ?_)
              · refine s_iconst H d12_118 (z := (1 : Int32)) (by decide) (pc' := 119) rfl ?_
                refine s_iret H d12_119 rfl (by simp) (by decide) (by decide) ?_
                refine ⟨?_, rfl⟩
                unfold exf
                rw [if_neg c3]
                first | rw [if_pos (show ush w 1 = 0 from c26)] | rw [if_neg (show ¬ ush w 1 = 0 from c26)] | rw [if_pos (show ush w 1 = 0 from Classical.not_not.mp c26)]
                first | rw [if_pos (show ush w 2 = 0 from c40)] | rw [if_neg (show ¬ ush w 2 = 0 from c40)] | rw [if_pos (show ush w 2 = 0 from Classical.not_not.mp c40)]
                first | rw [if_pos (show ush w 4 = 0 from c56)] | rw [if_neg (show ¬ ush w 4 = 0 from c56)] | rw [if_pos (show ush w 4 = 0 from Classical.not_not.mp c56)]
                first | rw [if_pos (show ush w 8 = 0 from c73)] | rw [if_neg (show ¬ ush w 8 = 0 from c73)] | rw [if_pos (show ush w 8 = 0 from Classical.not_not.mp c73)]
                first | rw [if_pos (show ush w 16 = 0 from c90)] | rw [if_neg (show ¬ ush w 16 = 0 from c90)] | rw [if_pos (show ush w 16 = 0 from Classical.not_not.mp c90)]
                first | rw [if_pos (show ush w 32 = 0 from c107)] | rw [if_neg (show ¬ ush w 32 = 0 from c107)] | rw [if_pos (show ush w 32 = 0 from Classical.not_not.mp c107)]
              · refine s_ldc2 H d12_110 (mem (i := 94) rfl) (pc' := 113) rfl ?_
                refine s_lstore H d12_113 (L' := fun z => #[.val (.long t), .second, .val (.long w), .second, .val (.long z), .second]) (fun _ => rfl) (pc' := 115) rfl (fun z0 hz => ?_)
                subst z0
                refine s_goto H d12_115 (pc' := 120) (by decide) ?_
                refine s_lloadn H d12_120 rfl (pc' := 121) rfl ?_
                refine s_lload H d12_121 rfl (pc' := 123) rfl ?_
                refine s_lcmp H d12_123 (pc' := 124) rfl ?_
                refine s_if H d12_124 (py := 131) (pc' := 127) l_gt (by decide) rfl (fun c124 => ?_) (fun c124 => ?_)
                · refine s_iconst H d12_131 (z := (0 : Int32)) (by decide) (pc' := 132) rfl ?_
                  refine s_iret H d12_132 rfl (by simp) (by decide) (by decide) ?_
                  refine ⟨?_, rfl⟩
                  unfold exf
                  rw [if_neg c3]
                  first | rw [if_pos (show ush w 1 = 0 from c26)] | rw [if_neg (show ¬ ush w 1 = 0 from c26)] | rw [if_pos (show ush w 1 = 0 from Classical.not_not.mp c26)]
                  first | rw [if_pos (show ush w 2 = 0 from c40)] | rw [if_neg (show ¬ ush w 2 = 0 from c40)] | rw [if_pos (show ush w 2 = 0 from Classical.not_not.mp c40)]
                  first | rw [if_pos (show ush w 4 = 0 from c56)] | rw [if_neg (show ¬ ush w 4 = 0 from c56)] | rw [if_pos (show ush w 4 = 0 from Classical.not_not.mp c56)]
                  first | rw [if_pos (show ush w 8 = 0 from c73)] | rw [if_neg (show ¬ ush w 8 = 0 from c73)] | rw [if_pos (show ush w 8 = 0 from Classical.not_not.mp c73)]
                  first | rw [if_pos (show ush w 16 = 0 from c90)] | rw [if_neg (show ¬ ush w 16 = 0 from c90)] | rw [if_pos (show ush w 16 = 0 from Classical.not_not.mp c90)]
                  first | rw [if_pos (show ush w 32 = 0 from c107)] | rw [if_neg (show ¬ ush w 32 = 0 from c107)] | rw [if_pos (show ush w 32 = 0 from Classical.not_not.mp c107)]
                  first | rw [if_pos c124] | rw [if_neg c124] | rw [if_neg (Int64.not_le.mpr c124)] | rw [if_pos (Int64.not_lt.mp c124)]
                · refine s_iconst H d12_127 (z := (1 : Int32)) (by decide) (pc' := 128) rfl ?_
                  refine s_goto H d12_128 (pc' := 132) (by decide) ?_
                  refine s_iret H d12_132 rfl (by simp) (by decide) (by decide) ?_
                  refine ⟨?_, rfl⟩
                  unfold exf
                  rw [if_neg c3]
                  first | rw [if_pos (show ush w 1 = 0 from c26)] | rw [if_neg (show ¬ ush w 1 = 0 from c26)] | rw [if_pos (show ush w 1 = 0 from Classical.not_not.mp c26)]
                  first | rw [if_pos (show ush w 2 = 0 from c40)] | rw [if_neg (show ¬ ush w 2 = 0 from c40)] | rw [if_pos (show ush w 2 = 0 from Classical.not_not.mp c40)]
                  first | rw [if_pos (show ush w 4 = 0 from c56)] | rw [if_neg (show ¬ ush w 4 = 0 from c56)] | rw [if_pos (show ush w 4 = 0 from Classical.not_not.mp c56)]
                  first | rw [if_pos (show ush w 8 = 0 from c73)] | rw [if_neg (show ¬ ush w 8 = 0 from c73)] | rw [if_pos (show ush w 8 = 0 from Classical.not_not.mp c73)]
                  first | rw [if_pos (show ush w 16 = 0 from c90)] | rw [if_neg (show ¬ ush w 16 = 0 from c90)] | rw [if_pos (show ush w 16 = 0 from Classical.not_not.mp c90)]
                  first | rw [if_pos (show ush w 32 = 0 from c107)] | rw [if_neg (show ¬ ush w 32 = 0 from c107)] | rw [if_pos (show ush w 32 = 0 from Classical.not_not.mp c107)]
                  first | rw [if_pos c124] | rw [if_neg c124] | rw [if_neg (Int64.not_le.mpr c124)] | rw [if_pos (Int64.not_lt.mp c124)]
            · refine s_ldc2 H d12_93 (mem (i := 98) rfl) (pc' := 96) rfl ?_
              refine s_lstore H d12_96 (L' := fun z => #[.val (.long t), .second, .val (.long w), .second, .val (.long z), .second]) (fun _ => rfl) (pc' := 98) rfl (fun z0 hz => ?_)
              subst z0
              refine s_goto H d12_98 (pc' := 120) (by decide) ?_
              refine s_lloadn H d12_120 rfl (pc' := 121) rfl ?_
              refine s_lload H d12_121 rfl (pc' := 123) rfl ?_
              refine s_lcmp H d12_123 (pc' := 124) rfl ?_
              refine s_if H d12_124 (py := 131) (pc' := 127) l_gt (by decide) rfl (fun c124 => ?_) (fun c124 => ?_)
              · refine s_iconst H d12_131 (z := (0 : Int32)) (by decide) (pc' := 132) rfl ?_
                refine s_iret H d12_132 rfl (by simp) (by decide) (by decide) ?_
                refine ⟨?_, rfl⟩
                unfold exf
                rw [if_neg c3]
                first | rw [if_pos (show ush w 1 = 0 from c26)] | rw [if_neg (show ¬ ush w 1 = 0 from c26)] | rw [if_pos (show ush w 1 = 0 from Classical.not_not.mp c26)]
                first | rw [if_pos (show ush w 2 = 0 from c40)] | rw [if_neg (show ¬ ush w 2 = 0 from c40)] | rw [if_pos (show ush w 2 = 0 from Classical.not_not.mp c40)]
                first | rw [if_pos (show ush w 4 = 0 from c56)] | rw [if_neg (show ¬ ush w 4 = 0 from c56)] | rw [if_pos (show ush w 4 = 0 from Classical.not_not.mp c56)]
                first | rw [if_pos (show ush w 8 = 0 from c73)] | rw [if_neg (show ¬ ush w 8 = 0 from c73)] | rw [if_pos (show ush w 8 = 0 from Classical.not_not.mp c73)]
                first | rw [if_pos (show ush w 16 = 0 from c90)] | rw [if_neg (show ¬ ush w 16 = 0 from c90)] | rw [if_pos (show ush w 16 = 0 from Classical.not_not.mp c90)]
                first | rw [if_pos c124] | rw [if_neg c124] | rw [if_neg (Int64.not_le.mpr c124)] | rw [if_pos (Int64.not_lt.mp c124)]
              · refine s_iconst H d12_127 (z := (1 : Int32)) (by decide) (pc' := 128) rfl ?_
                refine s_goto H d12_128 (pc' := 132) (by decide) ?_
                refine s_iret H d12_132 rfl (by simp) (by decide) (by decide) ?_
                refine ⟨?_, rfl⟩
                unfold exf
                rw [if_neg c3]
                first | rw [if_pos (show ush w 1 = 0 from c26)] | rw [if_neg (show ¬ ush w 1 = 0 from c26)] | rw [if_pos (show ush w 1 = 0 from Classical.not_not.mp c26)]
                first | rw [if_pos (show ush w 2 = 0 from c40)] | rw [if_neg (show ¬ ush w 2 = 0 from c40)] | rw [if_pos (show ush w 2 = 0 from Classical.not_not.mp c40)]
                first | rw [if_pos (show ush w 4 = 0 from c56)] | rw [if_neg (show ¬ ush w 4 = 0 from c56)] | rw [if_pos (show ush w 4 = 0 from Classical.not_not.mp c56)]
                first | rw [if_pos (show ush w 8 = 0 from c73)] | rw [if_neg (show ¬ ush w 8 = 0 from c73)] | rw [if_pos (show ush w 8 = 0 from Classical.not_not.mp c73)]
                first | rw [if_pos (show ush w 16 = 0 from c90)] | rw [if_neg (show ¬ ush w 16 = 0 from c90)] | rw [if_pos (show ush w 16 = 0 from Classical.not_not.mp c90)]
                first | rw [if_pos c124] | rw [if_neg c124] | rw [if_neg (Int64.not_le.mpr c124)] | rw [if_pos (Int64.not_lt.mp c124)]
          · refine s_ldc2 H d12_76 (mem (i := 96) rfl) (pc' := 79) rfl ?_
            refine s_lstore H d12_79 (L' := fun z => #[.val (.long t), .second, .val (.long w), .second, .val (.long z), .second]) (fun _ => rfl) (pc' := 81) rfl (fun z0 hz => ?_)
            subst z0
            refine s_goto H d12_81 (pc' := 120) (by decide) ?_
            refine s_lloadn H d12_120 rfl (pc' := 121) rfl ?_
            refine s_lload H d12_121 rfl (pc' := 123) rfl ?_
            refine s_lcmp H d12_123 (pc' := 124) rfl ?_
            refine s_if H d12_124 (py := 131) (pc' := 127) l_gt (by decide) rfl (fun c124 => ?_) (fun c124 => ?_)
            · refine s_iconst H d12_131 (z := (0 : Int32)) (by decide) (pc' := 132) rfl ?_
              refine s_iret H d12_132 rfl (by simp) (by decide) (by decide) ?_
              refine ⟨?_, rfl⟩
              unfold exf
              rw [if_neg c3]
              first | rw [if_pos (show ush w 1 = 0 from c26)] | rw [if_neg (show ¬ ush w 1 = 0 from c26)] | rw [if_pos (show ush w 1 = 0 from Classical.not_not.mp c26)]
              first | rw [if_pos (show ush w 2 = 0 from c40)] | rw [if_neg (show ¬ ush w 2 = 0 from c40)] | rw [if_pos (show ush w 2 = 0 from Classical.not_not.mp c40)]
              first | rw [if_pos (show ush w 4 = 0 from c56)] | rw [if_neg (show ¬ ush w 4 = 0 from c56)] | rw [if_pos (show ush w 4 = 0 from Classical.not_not.mp c56)]
              first | rw [if_pos (show ush w 8 = 0 from c73)] | rw [if_neg (show ¬ ush w 8 = 0 from c73)] | rw [if_pos (show ush w 8 = 0 from Classical.not_not.mp c73)]
              first | rw [if_pos c124] | rw [if_neg c124] | rw [if_neg (Int64.not_le.mpr c124)] | rw [if_pos (Int64.not_lt.mp c124)]
            · refine s_iconst H d12_127 (z := (1 : Int32)) (by decide) (pc' := 128) rfl ?_
              refine s_goto H d12_128 (pc' := 132) (by decide) ?_
              refine s_iret H d12_132 rfl (by simp) (by decide) (by decide) ?_
              refine ⟨?_, rfl⟩
              unfold exf
              rw [if_neg c3]
              first | rw [if_pos (show ush w 1 = 0 from c26)] | rw [if_neg (show ¬ ush w 1 = 0 from c26)] | rw [if_pos (show ush w 1 = 0 from Classical.not_not.mp c26)]
              first | rw [if_pos (show ush w 2 = 0 from c40)] | rw [if_neg (show ¬ ush w 2 = 0 from c40)] | rw [if_pos (show ush w 2 = 0 from Classical.not_not.mp c40)]
              first | rw [if_pos (show ush w 4 = 0 from c56)] | rw [if_neg (show ¬ ush w 4 = 0 from c56)] | rw [if_pos (show ush w 4 = 0 from Classical.not_not.mp c56)]
              first | rw [if_pos (show ush w 8 = 0 from c73)] | rw [if_neg (show ¬ ush w 8 = 0 from c73)] | rw [if_pos (show ush w 8 = 0 from Classical.not_not.mp c73)]
              first | rw [if_pos c124] | rw [if_neg c124] | rw [if_neg (Int64.not_le.mpr c124)] | rw [if_pos (Int64.not_lt.mp c124)]
        · refine s_ldc2 H d12_59 (mem (i := 97) rfl) (pc' := 62) rfl ?_
          refine s_lstore H d12_62 (L' := fun z => #[.val (.long t), .second, .val (.long w), .second, .val (.long z), .second]) (fun _ => rfl) (pc' := 64) rfl (fun z0 hz => ?_)
          subst z0
          refine s_goto H d12_64 (pc' := 120) (by decide) ?_
          refine s_lloadn H d12_120 rfl (pc' := 121) rfl ?_
          refine s_lload H d12_121 rfl (pc' := 123) rfl ?_
          refine s_lcmp H d12_123 (pc' := 124) rfl ?_
          refine s_if H d12_124 (py := 131) (pc' := 127) l_gt (by decide) rfl (fun c124 => ?_) (fun c124 => ?_)
          · refine s_iconst H d12_131 (z := (0 : Int32)) (by decide) (pc' := 132) rfl ?_
            refine s_iret H d12_132 rfl (by simp) (by decide) (by decide) ?_
            refine ⟨?_, rfl⟩
            unfold exf
            rw [if_neg c3]
            first | rw [if_pos (show ush w 1 = 0 from c26)] | rw [if_neg (show ¬ ush w 1 = 0 from c26)] | rw [if_pos (show ush w 1 = 0 from Classical.not_not.mp c26)]
            first | rw [if_pos (show ush w 2 = 0 from c40)] | rw [if_neg (show ¬ ush w 2 = 0 from c40)] | rw [if_pos (show ush w 2 = 0 from Classical.not_not.mp c40)]
            first | rw [if_pos (show ush w 4 = 0 from c56)] | rw [if_neg (show ¬ ush w 4 = 0 from c56)] | rw [if_pos (show ush w 4 = 0 from Classical.not_not.mp c56)]
            first | rw [if_pos c124] | rw [if_neg c124] | rw [if_neg (Int64.not_le.mpr c124)] | rw [if_pos (Int64.not_lt.mp c124)]
          · refine s_iconst H d12_127 (z := (1 : Int32)) (by decide) (pc' := 128) rfl ?_
            refine s_goto H d12_128 (pc' := 132) (by decide) ?_
            refine s_iret H d12_132 rfl (by simp) (by decide) (by decide) ?_
            refine ⟨?_, rfl⟩
            unfold exf
            rw [if_neg c3]
            first | rw [if_pos (show ush w 1 = 0 from c26)] | rw [if_neg (show ¬ ush w 1 = 0 from c26)] | rw [if_pos (show ush w 1 = 0 from Classical.not_not.mp c26)]
            first | rw [if_pos (show ush w 2 = 0 from c40)] | rw [if_neg (show ¬ ush w 2 = 0 from c40)] | rw [if_pos (show ush w 2 = 0 from Classical.not_not.mp c40)]
            first | rw [if_pos (show ush w 4 = 0 from c56)] | rw [if_neg (show ¬ ush w 4 = 0 from c56)] | rw [if_pos (show ush w 4 = 0 from Classical.not_not.mp c56)]
            first | rw [if_pos c124] | rw [if_neg c124] | rw [if_neg (Int64.not_le.mpr c124)] | rw [if_pos (Int64.not_lt.mp c124)]
      · refine s_ldc2 H d12_43 (mem (i := 95) rfl) (pc' := 46) rfl ?_
        refine s_lstore H d12_46 (L' := fun z => #[.val (.long t), .second, .val (.long w), .second, .val (.long z), .second]) (fun _ => rfl) (pc' := 48) rfl (fun z0 hz => ?_)
        subst z0
        refine s_goto H d12_48 (pc' := 120) (by decide) ?_
        refine s_lloadn H d12_120 rfl (pc' := 121) rfl ?_
        refine s_lload H d12_121 rfl (pc' := 123) rfl ?_
        refine s_lcmp H d12_123 (pc' := 124) rfl ?_
        refine s_if H d12_124 (py := 131) (pc' := 127) l_gt (by decide) rfl (fun c124 => ?_) (fun c124 => ?_)
        · refine s_iconst H d12_131 (z := (0 : Int32)) (by decide) (pc' := 132) rfl ?_
          refine s_iret H d12_132 rfl (by simp) (by decide) (by decide) ?_
          refine ⟨?_, rfl⟩
          unfold exf
          rw [if_neg c3]
          first | rw [if_pos (show ush w 1 = 0 from c26)] | rw [if_neg (show ¬ ush w 1 = 0 from c26)] | rw [if_pos (show ush w 1 = 0 from Classical.not_not.mp c26)]
          first | rw [if_pos (show ush w 2 = 0 from c40)] | rw [if_neg (show ¬ ush w 2 = 0 from c40)] | rw [if_pos (show ush w 2 = 0 from Classical.not_not.mp c40)]
          first | rw [if_pos c124] | rw [if_neg c124] | rw [if_neg (Int64.not_le.mpr c124)] | rw [if_pos (Int64.not_lt.mp c124)]
        · refine s_iconst H d12_127 (z := (1 : Int32)) (by decide) (pc' := 128) rfl ?_
          refine s_goto H d12_128 (pc' := 132) (by decide) ?_
          refine s_iret H d12_132 rfl (by simp) (by decide) (by decide) ?_
          refine ⟨?_, rfl⟩
          unfold exf
          rw [if_neg c3]
          first | rw [if_pos (show ush w 1 = 0 from c26)] | rw [if_neg (show ¬ ush w 1 = 0 from c26)] | rw [if_pos (show ush w 1 = 0 from Classical.not_not.mp c26)]
          first | rw [if_pos (show ush w 2 = 0 from c40)] | rw [if_neg (show ¬ ush w 2 = 0 from c40)] | rw [if_pos (show ush w 2 = 0 from Classical.not_not.mp c40)]
          first | rw [if_pos c124] | rw [if_neg c124] | rw [if_neg (Int64.not_le.mpr c124)] | rw [if_pos (Int64.not_lt.mp c124)]
    · refine s_lconst H d12_29 (z := (1 : Int64)) (by decide) (pc' := 30) rfl ?_
      refine s_lstore H d12_30 (L' := fun z => #[.val (.long t), .second, .val (.long w), .second, .val (.long z), .second]) (fun _ => rfl) (pc' := 32) rfl (fun z0 hz => ?_)
      subst z0
      refine s_goto H d12_32 (pc' := 120) (by decide) ?_
      refine s_lloadn H d12_120 rfl (pc' := 121) rfl ?_
      refine s_lload H d12_121 rfl (pc' := 123) rfl ?_
      refine s_lcmp H d12_123 (pc' := 124) rfl ?_
      refine s_if H d12_124 (py := 131) (pc' := 127) l_gt (by decide) rfl (fun c124 => ?_) (fun c124 => ?_)
      · refine s_iconst H d12_131 (z := (0 : Int32)) (by decide) (pc' := 132) rfl ?_
        refine s_iret H d12_132 rfl (by simp) (by decide) (by decide) ?_
        refine ⟨?_, rfl⟩
        unfold exf
        rw [if_neg c3]
        first | rw [if_pos (show ush w 1 = 0 from c26)] | rw [if_neg (show ¬ ush w 1 = 0 from c26)] | rw [if_pos (show ush w 1 = 0 from Classical.not_not.mp c26)]
        first | rw [if_pos c124] | rw [if_neg c124] | rw [if_neg (Int64.not_le.mpr c124)] | rw [if_pos (Int64.not_lt.mp c124)]
      · refine s_iconst H d12_127 (z := (1 : Int32)) (by decide) (pc' := 128) rfl ?_
        refine s_goto H d12_128 (pc' := 132) (by decide) ?_
        refine s_iret H d12_132 rfl (by simp) (by decide) (by decide) ?_
        refine ⟨?_, rfl⟩
        unfold exf
        rw [if_neg c3]
        first | rw [if_pos (show ush w 1 = 0 from c26)] | rw [if_neg (show ¬ ush w 1 = 0 from c26)] | rw [if_pos (show ush w 1 = 0 from Classical.not_not.mp c26)]
        first | rw [if_pos c124] | rw [if_neg c124] | rw [if_neg (Int64.not_le.mpr c124)] | rw [if_pos (Int64.not_lt.mp c124)]
  · have c3' : t < 0 := by rw [← Int64.not_le]; exact c3
    clear c3
    refine s_lloadn H d12_6 rfl (pc' := 7) rfl ?_
    refine s_bipush H d12_7 (z := (32 : Int32)) (by decide) (pc' := 9) rfl ?_
    refine s_lushr H d12_9 (pc' := 10) rfl ?_
    refine s_lconst H d12_10 (z := (0 : Int64)) (by decide) (pc' := 11) rfl ?_
    refine s_lcmp H d12_11 (pc' := 12) rfl ?_
    refine s_if H d12_12 (py := 19) (pc' := 15) l_eq (by decide) rfl (fun c12 => ?_) (fun c12 => ?_)
    · refine s_iconst H d12_19 (z := (0 : Int32)) (by decide) (pc' := 20) rfl ?_
      refine s_iret H d12_20 rfl (by simp) (by decide) (by decide) ?_
      refine ⟨?_, rfl⟩
      unfold exf
      rw [if_pos c3']
      first | rw [if_pos (show ush w 32 = 0 from c12)] | rw [if_neg (show ¬ ush w 32 = 0 from c12)] | rw [if_pos (show ush w 32 = 0 from Classical.not_not.mp c12)]
    · refine s_iconst H d12_15 (z := (1 : Int32)) (by decide) (pc' := 16) rfl ?_
      refine s_goto H d12_16 (pc' := 20) (by decide) ?_
      refine s_iret H d12_20 rfl (by simp) (by decide) (by decide) ?_
      refine ⟨?_, rfl⟩
      unfold exf
      rw [if_pos c3']
      first | rw [if_pos (show ush w 32 = 0 from c12)] | rw [if_neg (show ¬ ush w 32 = 0 from c12)] | rw [if_pos (show ush w 32 = 0 from Classical.not_not.mp c12)]
set_option maxRecDepth 65536 in
set_option maxHeartbeats 40000000 in
theorem s0 {Z : State} {k : Cx} {i0 i1 : Int64} {i2 i3 : Int32} {sv : Addr} (H : Ok Z k room_1 (LQ) x code maxLocals ret) (hS : Sta Z Z.heap "java/util/ArrayList" "DEFAULTCAPACITY_EMPTY_ELEMENTDATA" "[Ljava/lang/Object;" (.ref sv)) : Go Z k 0 0 ([] : Hp) 0 #[.val (.long i0), .second, .val (.long i1), .second, .val (.int i2), .val (.int i3), .unset, .unset, .unset, .unset] [] := by
  refine s_new H (C := "com/example/workflow_net_analyzer/workflownetanalyzer/statespace/MarkingTable") [("com/example/workflow_net_analyzer/workflownetanalyzer/statespace/MarkingTable", "chunks", "Ljava/util/List;", .null), ("com/example/workflow_net_analyzer/workflownetanalyzer/statespace/MarkingTable", "slots", "[J", .null), ("com/example/workflow_net_analyzer/workflownetanalyzer/statespace/MarkingTable", "places", "I", (.int (0 : Int32))), ("com/example/workflow_net_analyzer/workflownetanalyzer/statespace/MarkingTable", "layout", "Lcom/example/workflow_net_analyzer/workflownetanalyzer/statespace/MarkingTable$Layout;", .null), ("com/example/workflow_net_analyzer/workflownetanalyzer/statespace/MarkingTable", "size", "I", (.int (0 : Int32)))] at_0 (mem (i := 0) rfl) (mem (i := 1) rfl) (mem (i := 2) rfl) (allC ⟨Or.inl (mem (i := 34) rfl), (.object "java/util/List"), by decide, rfl⟩ (allC ⟨Or.inl (mem (i := 37) rfl), (.array .long), by decide, rfl⟩ (allC ⟨Or.inr (mem (i := 39) rfl), .int, by decide, rfl⟩ (allC ⟨Or.inl (mem (i := 73) rfl), (.object "com/example/workflow_net_analyzer/workflownetanalyzer/statespace/MarkingTable$Layout"), by decide, rfl⟩ (allC ⟨Or.inl (mem (i := 81) rfl), .int, by decide, rfl⟩ allN))))) (by decide) (cn' := 1) (sn' := 5) rfl rfl (by decide) (by decide) (pc' := 3) rfl (fun a1 => ?_)
  refine s_dup H at_3 rfl (pc' := 4) rfl ?_
  refine s_iload H at_4 rfl (pc' := 6) rfl ?_
  refine s_sipush H at_6 (z := (255 : Int32)) (by decide) (pc' := 9) rfl ?_
  refine s_iand H at_9 (pc' := 10) rfl ?_
  refine s_init H (met_mt H.tb a1 (i2 &&& (255 : Int32)) hS) at_10 rfl (mem (i := 3) rfl) (mem (i := 4) rfl) (mem (i := 2) rfl) (mem (i := 5) rfl) (by decide) pd_1 rfl (rest := [(.ref a1)]) rfl rfl (by decide) (Nat.le_of_ble_eq_true rfl) (cn' := 4) (sn' := 1038) rfl rfl (by decide) (by decide) (pc' := 13) rfl (fun v0 M0 hq => ?_)
  obtain ⟨la0, sa0, al0, p1, p2, p3, p4, rfl, hm0⟩ := hq
  subst M0
  show Go Z k 4 1038 ((la0, Obj Z "com/example/workflow_net_analyzer/workflownetanalyzer/statespace/MarkingTable$Layout" [("com/example/workflow_net_analyzer/workflownetanalyzer/statespace/MarkingTable$Layout", "width", "I", (.int (1 : Int32))), ("com/example/workflow_net_analyzer/workflownetanalyzer/statespace/MarkingTable$Layout", "widthShift", "I", (.int p1)), ("com/example/workflow_net_analyzer/workflownetanalyzer/statespace/MarkingTable$Layout", "longShift", "I", (.int p2)), ("com/example/workflow_net_analyzer/workflownetanalyzer/statespace/MarkingTable$Layout", "mask", "J", (.long (mk (1 : Int32)))), ("com/example/workflow_net_analyzer/workflownetanalyzer/statespace/MarkingTable$Layout", "stride", "I", (.int p3)), ("com/example/workflow_net_analyzer/workflownetanalyzer/statespace/MarkingTable$Layout", "chunkShift", "I", (.int p4))]) :: (sa0, ArL Z (List.replicate 1024 0)) :: (al0, Obj Z "java/util/ArrayList" [("java/util/AbstractList", "modCount", "I", (.int (0 : Int32))), ("java/util/ArrayList", "elementData", "[Ljava/lang/Object;", (.ref sv))]) :: (a1, Obj Z "com/example/workflow_net_analyzer/workflownetanalyzer/statespace/MarkingTable" [("com/example/workflow_net_analyzer/workflownetanalyzer/statespace/MarkingTable", "chunks", "Ljava/util/List;", (.ref al0)), ("com/example/workflow_net_analyzer/workflownetanalyzer/statespace/MarkingTable", "slots", "[J", (.ref sa0)), ("com/example/workflow_net_analyzer/workflownetanalyzer/statespace/MarkingTable", "places", "I", (.int (i2 &&& (255 : Int32)))), ("com/example/workflow_net_analyzer/workflownetanalyzer/statespace/MarkingTable", "layout", "Lcom/example/workflow_net_analyzer/workflownetanalyzer/statespace/MarkingTable$Layout;", (.ref la0)), ("com/example/workflow_net_analyzer/workflownetanalyzer/statespace/MarkingTable", "size", "I", (.int (0 : Int32)))]) :: []) 13 #[.val (.long i0), .second, .val (.long i1), .second, .val (.int i2), .val (.int i3), .unset, .unset, .unset, .unset] [(.ref a1)]
  refine s_astore H at_13 (L' := #[.val (.long i0), .second, .val (.long i1), .second, .val (.int i2), .val (.int i3), .val (.ref a1), .unset, .unset, .unset]) rfl rfl (pc' := 15) rfl ?_
  refine s_lconst H at_15 (z := (0 : Int64)) (by decide) (pc' := 16) rfl ?_
  refine s_lstore H at_16 (L' := fun z => #[.val (.long i0), .second, .val (.long i1), .second, .val (.int i2), .val (.int i3), .val (.ref a1), .val (.long z), .second, .unset]) (fun _ => rfl) (pc' := 18) rfl (fun z0 hz => ?_)
  subst z0
  refine s_iload H at_18 rfl (pc' := 20) rfl ?_
  refine s_iconst H at_20 (z := (1 : Int32)) (by decide) (pc' := 21) rfl ?_
  refine s_iand H at_21 (pc' := 22) rfl ?_
  refine s_if H at_22 (py := 34) (pc' := 25) z_eq (by decide) rfl (fun c22 => ?_) (fun c22 => ?_)
  · refine s_aload H at_34 rfl rfl (pc' := 36) rfl ?_
    refine s_lloadn H at_36 rfl (pc' := 37) rfl ?_
    refine s_virtual H (met_ft H.tb a1 la0 sa0 al0 (i2 &&& (255 : Int32)) (1 : Int32) p1 p2 p3 p4 i0) at_37 (i := 3) rfl (mem (i := 82) rfl) (mem (i := 83) rfl) (mem (i := 85) rfl) (mem (i := 84) rfl) (mem (i := 2) rfl) (mem (i := 86) rfl) (by decide) pd_11 rfl (rest := []) rfl rfl (by decide) (Nat.le_of_ble_eq_true rfl) (cn' := 4) (sn' := 1038) rfl rfl (by decide) (by decide) (pc' := 40) rfl (fun v0 M0 hq => ?_)
    obtain ⟨rfl, hm0⟩ := hq
    subst M0
    show Go Z k 4 1038 ((la0, Obj Z "com/example/workflow_net_analyzer/workflownetanalyzer/statespace/MarkingTable$Layout" [("com/example/workflow_net_analyzer/workflownetanalyzer/statespace/MarkingTable$Layout", "width", "I", (.int (1 : Int32))), ("com/example/workflow_net_analyzer/workflownetanalyzer/statespace/MarkingTable$Layout", "widthShift", "I", (.int p1)), ("com/example/workflow_net_analyzer/workflownetanalyzer/statespace/MarkingTable$Layout", "longShift", "I", (.int p2)), ("com/example/workflow_net_analyzer/workflownetanalyzer/statespace/MarkingTable$Layout", "mask", "J", (.long (mk (1 : Int32)))), ("com/example/workflow_net_analyzer/workflownetanalyzer/statespace/MarkingTable$Layout", "stride", "I", (.int p3)), ("com/example/workflow_net_analyzer/workflownetanalyzer/statespace/MarkingTable$Layout", "chunkShift", "I", (.int p4))]) :: (sa0, ArL Z (List.replicate 1024 0)) :: (al0, Obj Z "java/util/ArrayList" [("java/util/AbstractList", "modCount", "I", (.int (0 : Int32))), ("java/util/ArrayList", "elementData", "[Ljava/lang/Object;", (.ref sv))]) :: (a1, Obj Z "com/example/workflow_net_analyzer/workflownetanalyzer/statespace/MarkingTable" [("com/example/workflow_net_analyzer/workflownetanalyzer/statespace/MarkingTable", "chunks", "Ljava/util/List;", (.ref al0)), ("com/example/workflow_net_analyzer/workflownetanalyzer/statespace/MarkingTable", "slots", "[J", (.ref sa0)), ("com/example/workflow_net_analyzer/workflownetanalyzer/statespace/MarkingTable", "places", "I", (.int (i2 &&& (255 : Int32)))), ("com/example/workflow_net_analyzer/workflownetanalyzer/statespace/MarkingTable", "layout", "Lcom/example/workflow_net_analyzer/workflownetanalyzer/statespace/MarkingTable$Layout;", (.ref la0)), ("com/example/workflow_net_analyzer/workflownetanalyzer/statespace/MarkingTable", "size", "I", (.int (0 : Int32)))]) :: []) 40 #[.val (.long i0), .second, .val (.long i1), .second, .val (.int i2), .val (.int i3), .val (.ref a1), .val (.long (0 : Int64)), .second, .unset] [(.int (if i0 &&& (mk (1 : Int32) ^^^ (-1 : Int64)) = 0 then 1 else 0))]
    refine s_istore H at_40 (L' := fun z => #[.val (.long i0), .second, .val (.long i1), .second, .val (.int i2), .val (.int i3), .val (.ref a1), .val (.long (0 : Int64)), .second, .val (.int z)]) (fun _ => rfl) (pc' := 42) rfl (fun got h_got => ?_)
    refine s_iload H at_42 rfl (pc' := 44) rfl ?_
    refine s_lloadn H at_44 rfl (pc' := 45) rfl ?_
    refine s_lload H at_45 rfl (pc' := 47) rfl ?_
    refine s_static H (met_ex H.tb i0 (0 : Int64)) at_47 (mem (i := 89) rfl) (mem (i := 90) rfl) (mem (i := 91) rfl) (mem (i := 92) rfl) (by decide) pd_12 rfl (rest := [(.int got)]) rfl rfl (by decide) (Nat.le_of_ble_eq_true rfl) (cn' := 4) (sn' := 1038) rfl rfl (by decide) (by decide) (pc' := 50) rfl (fun v0 M0 hq => ?_)
    obtain ⟨rfl, hm0⟩ := hq
    subst M0
    show Go Z k 4 1038 ((la0, Obj Z "com/example/workflow_net_analyzer/workflownetanalyzer/statespace/MarkingTable$Layout" [("com/example/workflow_net_analyzer/workflownetanalyzer/statespace/MarkingTable$Layout", "width", "I", (.int (1 : Int32))), ("com/example/workflow_net_analyzer/workflownetanalyzer/statespace/MarkingTable$Layout", "widthShift", "I", (.int p1)), ("com/example/workflow_net_analyzer/workflownetanalyzer/statespace/MarkingTable$Layout", "longShift", "I", (.int p2)), ("com/example/workflow_net_analyzer/workflownetanalyzer/statespace/MarkingTable$Layout", "mask", "J", (.long (mk (1 : Int32)))), ("com/example/workflow_net_analyzer/workflownetanalyzer/statespace/MarkingTable$Layout", "stride", "I", (.int p3)), ("com/example/workflow_net_analyzer/workflownetanalyzer/statespace/MarkingTable$Layout", "chunkShift", "I", (.int p4))]) :: (sa0, ArL Z (List.replicate 1024 0)) :: (al0, Obj Z "java/util/ArrayList" [("java/util/AbstractList", "modCount", "I", (.int (0 : Int32))), ("java/util/ArrayList", "elementData", "[Ljava/lang/Object;", (.ref sv))]) :: (a1, Obj Z "com/example/workflow_net_analyzer/workflownetanalyzer/statespace/MarkingTable" [("com/example/workflow_net_analyzer/workflownetanalyzer/statespace/MarkingTable", "chunks", "Ljava/util/List;", (.ref al0)), ("com/example/workflow_net_analyzer/workflownetanalyzer/statespace/MarkingTable", "slots", "[J", (.ref sa0)), ("com/example/workflow_net_analyzer/workflownetanalyzer/statespace/MarkingTable", "places", "I", (.int (i2 &&& (255 : Int32)))), ("com/example/workflow_net_analyzer/workflownetanalyzer/statespace/MarkingTable", "layout", "Lcom/example/workflow_net_analyzer/workflownetanalyzer/statespace/MarkingTable$Layout;", (.ref la0)), ("com/example/workflow_net_analyzer/workflownetanalyzer/statespace/MarkingTable", "size", "I", (.int (0 : Int32)))]) :: []) 50 #[.val (.long i0), .second, .val (.long i1), .second, .val (.int i2), .val (.int i3), .val (.ref a1), .val (.long (0 : Int64)), .second, .val (.int got)] [(.int (exf i0 (0 : Int64))), (.int got)]
    refine s_icmp H at_50 (py := 57) (pc' := 53) q_ne (by decide) rfl (fun c50 => ?_) (fun c50 => ?_)
    · refine s_iconst H at_57 (z := (0 : Int32)) (by decide) (pc' := 58) rfl ?_
      exfalso
      exact c50 (by rw [h_got]; exact own_ans i0 0 0 WR0)
    · refine s_iconst H at_53 (z := (1 : Int32)) (by decide) (pc' := 54) rfl ?_
      refine s_goto H at_54 (pc' := 58) (by decide) ?_
      exact s_iret H at_58 rfl (by simp) (by decide) (by decide) (rfl)
  · refine s_aload H at_25 rfl rfl (pc' := 27) rfl ?_
    refine s_lloadn H at_27 rfl (pc' := 28) rfl ?_
    refine s_virtual H (met_wd H.tb a1 la0 sa0 al0 (i2 &&& (255 : Int32)) p1 p2 p3 p4 i1 0 hS (by decide)) at_28 (i := 3) rfl (mem (i := 74) rfl) (mem (i := 75) rfl) (mem (i := 77) rfl) (mem (i := 76) rfl) (mem (i := 2) rfl) (mem (i := 78) rfl) (by decide) pd_10 rfl (rest := []) rfl rfl (by decide) (Nat.le_of_ble_eq_true rfl) (cn' := 7) (sn' := 2071) rfl rfl (by decide) (by decide) (pc' := 31) rfl (fun v0 M0 hq => ?_)
    obtain ⟨k2, la2, sa2, al2, b2_0, b2_1, b2_2, b2_3, F2, hWk2, rfl, hm0⟩ := hq
    subst M0
    show Go Z k 7 2071 ((la2, Obj Z "com/example/workflow_net_analyzer/workflownetanalyzer/statespace/MarkingTable$Layout" [("com/example/workflow_net_analyzer/workflownetanalyzer/statespace/MarkingTable$Layout", "width", "I", (.int (2 ^ k2).toInt32)), ("com/example/workflow_net_analyzer/workflownetanalyzer/statespace/MarkingTable$Layout", "widthShift", "I", (.int b2_0)), ("com/example/workflow_net_analyzer/workflownetanalyzer/statespace/MarkingTable$Layout", "longShift", "I", (.int b2_1)), ("com/example/workflow_net_analyzer/workflownetanalyzer/statespace/MarkingTable$Layout", "mask", "J", (.long (mk (2 ^ k2).toInt32))), ("com/example/workflow_net_analyzer/workflownetanalyzer/statespace/MarkingTable$Layout", "stride", "I", (.int b2_2)), ("com/example/workflow_net_analyzer/workflownetanalyzer/statespace/MarkingTable$Layout", "chunkShift", "I", (.int b2_3))]) :: (sa2, ArL Z (List.replicate 1024 0)) :: (al2, Obj Z "java/util/ArrayList" [("java/util/AbstractList", "modCount", "I", (.int (0 : Int32))), ("java/util/ArrayList", "elementData", "[Ljava/lang/Object;", (.ref sv))]) :: (a1, Obj Z "com/example/workflow_net_analyzer/workflownetanalyzer/statespace/MarkingTable" [("com/example/workflow_net_analyzer/workflownetanalyzer/statespace/MarkingTable", "chunks", "Ljava/util/List;", (.ref al2)), ("com/example/workflow_net_analyzer/workflownetanalyzer/statespace/MarkingTable", "slots", "[J", (.ref sa2)), ("com/example/workflow_net_analyzer/workflownetanalyzer/statespace/MarkingTable", "places", "I", (.int (i2 &&& (255 : Int32)))), ("com/example/workflow_net_analyzer/workflownetanalyzer/statespace/MarkingTable", "layout", "Lcom/example/workflow_net_analyzer/workflownetanalyzer/statespace/MarkingTable$Layout;", (.ref la2)), ("com/example/workflow_net_analyzer/workflownetanalyzer/statespace/MarkingTable", "size", "I", (.int (0 : Int32)))]) :: F2) 31 #[.val (.long i0), .second, .val (.long i1), .second, .val (.int i2), .val (.int i3), .val (.ref a1), .val (.long (0 : Int64)), .second, .unset] []
    refine s_lloadn H at_31 rfl (pc' := 32) rfl ?_
    refine s_lstore H at_32 (L' := fun z => #[.val (.long i0), .second, .val (.long i1), .second, .val (.int i2), .val (.int i3), .val (.ref a1), .val (.long z), .second, .unset]) (fun _ => rfl) (pc' := 34) rfl (fun z0 hz => ?_)
    subst z0
    refine s_aload H at_34 rfl rfl (pc' := 36) rfl ?_
    refine s_lloadn H at_36 rfl (pc' := 37) rfl ?_
    refine s_virtual H (met_ft H.tb a1 la2 sa2 al2 (i2 &&& (255 : Int32)) ((2 ^ k2).toInt32) b2_0 b2_1 b2_2 b2_3 i0) at_37 (i := 3) rfl (mem (i := 82) rfl) (mem (i := 83) rfl) (mem (i := 85) rfl) (mem (i := 84) rfl) (mem (i := 2) rfl) (mem (i := 86) rfl) (by decide) pd_11 rfl (rest := []) rfl rfl (by decide) (Nat.le_of_ble_eq_true rfl) (cn' := 7) (sn' := 2071) rfl rfl (by decide) (by decide) (pc' := 40) rfl (fun v0 M0 hq => ?_)
    obtain ⟨rfl, hm0⟩ := hq
    subst M0
    show Go Z k 7 2071 ((la2, Obj Z "com/example/workflow_net_analyzer/workflownetanalyzer/statespace/MarkingTable$Layout" [("com/example/workflow_net_analyzer/workflownetanalyzer/statespace/MarkingTable$Layout", "width", "I", (.int (2 ^ k2).toInt32)), ("com/example/workflow_net_analyzer/workflownetanalyzer/statespace/MarkingTable$Layout", "widthShift", "I", (.int b2_0)), ("com/example/workflow_net_analyzer/workflownetanalyzer/statespace/MarkingTable$Layout", "longShift", "I", (.int b2_1)), ("com/example/workflow_net_analyzer/workflownetanalyzer/statespace/MarkingTable$Layout", "mask", "J", (.long (mk (2 ^ k2).toInt32))), ("com/example/workflow_net_analyzer/workflownetanalyzer/statespace/MarkingTable$Layout", "stride", "I", (.int b2_2)), ("com/example/workflow_net_analyzer/workflownetanalyzer/statespace/MarkingTable$Layout", "chunkShift", "I", (.int b2_3))]) :: (sa2, ArL Z (List.replicate 1024 0)) :: (al2, Obj Z "java/util/ArrayList" [("java/util/AbstractList", "modCount", "I", (.int (0 : Int32))), ("java/util/ArrayList", "elementData", "[Ljava/lang/Object;", (.ref sv))]) :: (a1, Obj Z "com/example/workflow_net_analyzer/workflownetanalyzer/statespace/MarkingTable" [("com/example/workflow_net_analyzer/workflownetanalyzer/statespace/MarkingTable", "chunks", "Ljava/util/List;", (.ref al2)), ("com/example/workflow_net_analyzer/workflownetanalyzer/statespace/MarkingTable", "slots", "[J", (.ref sa2)), ("com/example/workflow_net_analyzer/workflownetanalyzer/statespace/MarkingTable", "places", "I", (.int (i2 &&& (255 : Int32)))), ("com/example/workflow_net_analyzer/workflownetanalyzer/statespace/MarkingTable", "layout", "Lcom/example/workflow_net_analyzer/workflownetanalyzer/statespace/MarkingTable$Layout;", (.ref la2)), ("com/example/workflow_net_analyzer/workflownetanalyzer/statespace/MarkingTable", "size", "I", (.int (0 : Int32)))]) :: F2) 40 #[.val (.long i0), .second, .val (.long i1), .second, .val (.int i2), .val (.int i3), .val (.ref a1), .val (.long i1), .second, .unset] [(.int (if i0 &&& (mk ((2 ^ k2).toInt32) ^^^ (-1 : Int64)) = 0 then 1 else 0))]
    refine s_istore H at_40 (L' := fun z => #[.val (.long i0), .second, .val (.long i1), .second, .val (.int i2), .val (.int i3), .val (.ref a1), .val (.long i1), .second, .val (.int z)]) (fun _ => rfl) (pc' := 42) rfl (fun got h_got => ?_)
    refine s_iload H at_42 rfl (pc' := 44) rfl ?_
    refine s_lloadn H at_44 rfl (pc' := 45) rfl ?_
    refine s_lload H at_45 rfl (pc' := 47) rfl ?_
    refine s_static H (met_ex H.tb i0 i1) at_47 (mem (i := 89) rfl) (mem (i := 90) rfl) (mem (i := 91) rfl) (mem (i := 92) rfl) (by decide) pd_12 rfl (rest := [(.int got)]) rfl rfl (by decide) (Nat.le_of_ble_eq_true rfl) (cn' := 7) (sn' := 2071) rfl rfl (by decide) (by decide) (pc' := 50) rfl (fun v0 M0 hq => ?_)
    obtain ⟨rfl, hm0⟩ := hq
    subst M0
    show Go Z k 7 2071 ((la2, Obj Z "com/example/workflow_net_analyzer/workflownetanalyzer/statespace/MarkingTable$Layout" [("com/example/workflow_net_analyzer/workflownetanalyzer/statespace/MarkingTable$Layout", "width", "I", (.int (2 ^ k2).toInt32)), ("com/example/workflow_net_analyzer/workflownetanalyzer/statespace/MarkingTable$Layout", "widthShift", "I", (.int b2_0)), ("com/example/workflow_net_analyzer/workflownetanalyzer/statespace/MarkingTable$Layout", "longShift", "I", (.int b2_1)), ("com/example/workflow_net_analyzer/workflownetanalyzer/statespace/MarkingTable$Layout", "mask", "J", (.long (mk (2 ^ k2).toInt32))), ("com/example/workflow_net_analyzer/workflownetanalyzer/statespace/MarkingTable$Layout", "stride", "I", (.int b2_2)), ("com/example/workflow_net_analyzer/workflownetanalyzer/statespace/MarkingTable$Layout", "chunkShift", "I", (.int b2_3))]) :: (sa2, ArL Z (List.replicate 1024 0)) :: (al2, Obj Z "java/util/ArrayList" [("java/util/AbstractList", "modCount", "I", (.int (0 : Int32))), ("java/util/ArrayList", "elementData", "[Ljava/lang/Object;", (.ref sv))]) :: (a1, Obj Z "com/example/workflow_net_analyzer/workflownetanalyzer/statespace/MarkingTable" [("com/example/workflow_net_analyzer/workflownetanalyzer/statespace/MarkingTable", "chunks", "Ljava/util/List;", (.ref al2)), ("com/example/workflow_net_analyzer/workflownetanalyzer/statespace/MarkingTable", "slots", "[J", (.ref sa2)), ("com/example/workflow_net_analyzer/workflownetanalyzer/statespace/MarkingTable", "places", "I", (.int (i2 &&& (255 : Int32)))), ("com/example/workflow_net_analyzer/workflownetanalyzer/statespace/MarkingTable", "layout", "Lcom/example/workflow_net_analyzer/workflownetanalyzer/statespace/MarkingTable$Layout;", (.ref la2)), ("com/example/workflow_net_analyzer/workflownetanalyzer/statespace/MarkingTable", "size", "I", (.int (0 : Int32)))]) :: F2) 50 #[.val (.long i0), .second, .val (.long i1), .second, .val (.int i2), .val (.int i3), .val (.ref a1), .val (.long i1), .second, .val (.int got)] [(.int (exf i0 i1)), (.int got)]
    refine s_icmp H at_50 (py := 57) (pc' := 53) q_ne (by decide) rfl (fun c50 => ?_) (fun c50 => ?_)
    · refine s_iconst H at_57 (z := (0 : Int32)) (by decide) (pc' := 58) rfl ?_
      exfalso
      exact c50 (by rw [h_got]; exact own_ans i0 i1 _ hWk2)
    · refine s_iconst H at_53 (z := (1 : Int32)) (by decide) (pc' := 54) rfl ?_
      refine s_goto H at_54 (pc' := 58) (by decide) ?_
      exact s_iret H at_58 rfl (by simp) (by decide) (by decide) (rfl)
theorem pl_0 : plainFor x = true := plainFor_of_name (by first | (simp [plainName, overriddenIn, x]; done) | decide +kernel)
set_option maxRecDepth 65536 in
set_option maxHeartbeats 40000000 in
theorem met_law {Z : State} (HT : Tb Z) {sv : Addr} (hS : Sta Z Z.heap "java/util/ArrayList" "DEFAULTCAPACITY_EMPTY_ELEMENTDATA" "[Ljava/lang/Object;" (.ref sv)) (l : Launch) (ws : List Jvm.Cond) (i0 : Int64) (i1 : Int64) (i2 : Int32) (i3 : Int32) (h0 : Heap) (hO : Own Z h0 []) :
    MetFree l x (head1 (Jvm.Cond.code x code maxLocals ret :: ws) room_1) (fun a U => a = [(.long i0), (.long i1), (.int i2), (.int i3)].toArray ∧ Z.Warmed39 U.vm ∧ U.heap = h0) (fun _ _ _ _ _ => True) (fun _ U o U' => ∃ v L, o = .returned v ∧ (Fr Z.heap.size L ∧ ∃ M, LQ v M ∧ Own Z U'.heap M) ∧ FrameEnd U o U' L room_1.cells room_1.slots) :=
  met_of l HT pl_0 (Ls := #[.val (.long i0), .second, .val (.long i1), .second, .val (.int i2), .val (.int i3), .unset, .unset, .unset, .unset]) (fun m => by first | (simp [entryFrame, mkF, argsToLocals, Value.category, maxLocals]; done) | rfl) hO (fun k H => s0 H hS)
set_option maxRecDepth 65536 in
set_option maxHeartbeats 40000000 in
theorem comes_1 {Post : Tables → Env → Array Value → State → Outcome → State → Prop} (hpost : ∀ tb e args s v u, (limb_1_1.after args s (.returned v) u = true ∧ limb_1_2.after args s (.returned v) u = true ∧ True) → FrameEnd s (.returned v) u (Jvm.fieldLocs frame_1_writes args s ++ Jvm.arrayLocs frame_1_arrays args s ++ Jvm.staticLocs frame_1_statics s) 24 4224 → Post tb e args s (.returned v) u) :
    ArmFor flags0 classFile x code maxLocals ret World_1 tables_1 room_1 Calls_1 rest_1 Pre_1 Post := by
  intro l hfl _ _ p e ha hc hk s m args below hf hA hF happ hP
  obtain ⟨hcalls, hrest, hpre⟩ := hP
  obtain ⟨-, -, -, hnamed, -, -, -, hat⟩ := (Spec.applies_iff hf).mp happ
  obtain ⟨hg, hn⟩ := and_e (Cond.before_iff.mp (show (Jvm.Cond.and given_1 narrow_1).before args s = true from hpre))
  obtain ⟨hcnt, hg0⟩ := and_e hg
  obtain ⟨hv0, hg1⟩ := and_e hg0
  obtain ⟨hv1, hg2⟩ := and_e hg1
  obtain ⟨hv2, hg3⟩ := and_e hg2
  obtain ⟨w0, w1, w2, w3, rfl⟩ : ∃ w0 w1 w2 w3 : Value, args = #[w0, w1, w2, w3] := by
    have hs : args.size = 4 := by simpa [Cond.value, given_1] using hcnt
    obtain ⟨L⟩ := args
    match L, hs with
    | [w0, w1, w2, w3], _ => exact ⟨w0, w1, w2, w3, rfl⟩
  have hw := fun d (hd : d ∈ tables_1) => atoms_spec (ws := Jvm.Cond.code x code maxLocals ret :: tables_1) hat d (List.mem_cons_of_mem _ hd)
  obtain ⟨i0, ei0⟩ := isL_v hv0
  obtain rfl : w0 = (.long i0) := Option.some.inj ei0
  obtain ⟨i1, ei1⟩ := isL_v hv1
  obtain rfl : w1 = (.long i1) := Option.some.inj ei1
  obtain ⟨i2, ei2⟩ := is_v hv2
  obtain rfl : w2 = (.int i2) := Option.some.inj ei2
  obtain ⟨i3, ei3⟩ := is_v hg3
  obtain rfl : w3 = (.int i3) := Option.some.inj ei3
  obtain ⟨hsets, hown0⟩ := atoms_of _ (rest_1_c_eq ▸ (show rest_1_c.before _ s = true from hrest))
  obtain ⟨sv, esv⟩ := arr_v (Cond.before_iff.mp (hsets _ (List.mem_of_getElem? (i := 6) rfl)))
  have hS := Sta.start esv (Or.inr ⟨hw _ (List.mem_of_getElem? (i := 11) rfl), hsets _ (List.mem_of_getElem? (i := 2) rfl)⟩)
  have hO : Own s s.heap [] := ⟨⟨Nat.le_refl _, fun _ _ q => q⟩, fun i x hx => (by cases hx), fun i j x y hx => (by cases hx)⟩
  obtain ⟨n, o, h1, h2, h3, v, L, rfl, ⟨N, M, hv, -⟩, hq⟩ := met_law (Z := s) ⟨_, hw⟩ hS l tables_1 i0 i1 i2 i3 s.heap hO p e ha hc hk s m _ below hf ((Spec.applies_iff_loose hf).mp happ).1 ⟨rfl, State.Warmed39.refl s, rfl⟩ trivial
  obtain rfl : v = some (.int 1) := hv
  exact ⟨n, _, h1, h2, h3, hpost _ _ _ _ _ _ ⟨Cond.after_iff.mpr rfl, Cond.after_iff.mpr (eq_i res_at (Term.int_eval (1)) rfl), trivial⟩ ⟨hq.1, hq.2.1, (hq.2.2.sift fun y hy => Or.inr (N y hy)).mono (by decide) (by decide)⟩⟩
theorem main_1_1 : Claimed_1_1 := comes_1 fun _ _ _ _ _ _ h hF => ⟨h.1, hF⟩
theorem main_1_2 : Claimed_1_2 := comes_1 fun _ _ _ _ _ _ h hF => ⟨h.2.1, hF⟩
end Jvm.Pilot.@@N@@
namespace Jvm.Pilot.@@N@@
open Jvm Jvm.ClassFile Sem Op Lib Jvm.Free Jvm.Stand Jvm.Pilot.@@N@@.Jvm.D
/-! MADE BY PROGRAM (witnessworld.py) out of the Statement's table words and the real class files: 27 classes; the members and pool entries that the words name. The judged class is class 1, her method 1. -/
namespace start1
open Jvm.ClassFile
def u (s : String) : CpInfo := .utf8 (stringToUtf16 s)
/-- a pool by its gaps: so many unusable entries, then the entry; so many at the end -/
def gap : Nat → List CpInfo → List CpInfo
  | 0, r => r
  | n + 1, r => .unusable :: gap n r
def poolList (es : List (Nat × CpInfo)) (last : Nat) : List CpInfo := es.foldr (fun e r => gap e.1 (e.2 :: r)) (gap last [])
def pool (es : List (Nat × CpInfo)) (last : Nat) : Array CpInfo := ⟨poolList es last⟩
def fileOf (pool : Array CpInfo) (this : Nat) (attrs : Array Attribute := #[]) (ms : Array MethodInfo := #[]) (fl : Nat := 33) (sup : Nat := 0) (ifs : Array Nat := #[]) (fds : Array FieldInfo := #[]) : ClassFile where
  minorVersion := 0
  majorVersion := 65
  constantPool := pool
  accessFlags := fl
  thisClass := this
  superClass := sup
  interfaces := ifs
  fields := fds
  methods := ms
  attributes := attrs
def plain (name : String) (sup : Option ClassId) : Class where
  name := name
  kind := .ordinary
  loader := none
  accessFlags := 33
  super := sup
  interfaces := #[]
  cf := none
  fields := #[]
  methods := #[]
  instanceTypes := #[]
  staticTypes := #[]
  resolved := #[]
  callSites := []
  init := .initialized
  statics := none
  mirror := none

def pool0 : Array CpInfo := pool [(5, u "<init>"), (0, u "()V"), (1, .class_ 10), (1, u "java/lang/Object")] 113

def k0c0 : Code := { maxStack := 0, maxLocals := 1, code := object_method_1_code, exceptionTable := #[], attributes := #[] }
def k0m0 : Method := { name := "<init>", desc := "()V", sig := { parameters := [], returnType := none }, accessFlags := 1, code := some k0c0 }
/-- java/lang/Object -/
def k0 : Class := { plain "java/lang/Object" none with
  accessFlags := 33
  interfaces := #[]
  cf := some (fileOf pool0 8 #[] #[{ accessFlags := 1, nameIndex := 5, descriptorIndex := 6, attributes := #[] }] 33 0 #[] #[])
  fields := #[]
  methods := #[k0m0]
  instanceTypes := #[]
  staticTypes := #[]
  resolved := Array.replicate 124 none
  statics := none }

def pool1 : Array CpInfo := pool [(2, .class_ 4), (1, u "java/lang/Object"), (0, u "<init>"), (0, u "()V"), (0, .class_ 8), (0, u "com/example/workflow_net_analyzer/workflownetanalyzer/statespace/MarkingTable"), (0, .methodref 7 10), (0, .nameAndType 5 11), (0, u "(I)V"), (0, .methodref 7 13), (0, .nameAndType 14 15), (0, u "widen"), (0, u "(J)V"), (0, .methodref 7 17), (0, .nameAndType 18 19), (0, u "fits"), (0, u "(J)Z"), (0, .methodref 21 22), (0, .class_ 23), (0, .nameAndType 24 25), (0, u "com/example/workflow_net_analyzer/workflownetanalyzer/statespace/MarkingTableFitsPinLaw"), (0, u "expected"), (0, u "(JJ)Z"), (0, .long 3), (1, .long 15), (1, .long 255), (1, .long 65535), (1, .long 4294967295), (3, u "law"), (0, u "(JJII)Z")] 3

def k1m0 : Method := { name := "<init>", desc := "()V", sig := { parameters := [], returnType := none }, accessFlags := 1, code := none }
def k1c1 : Code := { maxStack := 5, maxLocals := 10, code := code, exceptionTable := #[], attributes := #[] }
def k1m1 : Method := { name := "law", desc := "(JJII)Z", sig := { parameters := [.long, .long, .int, .int], returnType := some .boolean }, accessFlags := 9, code := some k1c1 }
def k1c2 : Code := { maxStack := 4, maxLocals := 6, code := method_3_code, exceptionTable := #[], attributes := #[] }
def k1m2 : Method := { name := "expected", desc := "(JJ)Z", sig := { parameters := [.long, .long], returnType := some .boolean }, accessFlags := 10, code := some k1c2 }
/-- com/example/workflow_net_analyzer/workflownetanalyzer/statespace/MarkingTableFitsPinLaw -/
def k1 : Class := { plain "com/example/workflow_net_analyzer/workflownetanalyzer/statespace/MarkingTableFitsPinLaw" (some 0) with
  accessFlags := 49
  interfaces := #[]
  cf := some (fileOf pool1 21 #[] #[{ accessFlags := 1, nameIndex := 5, descriptorIndex := 6, attributes := #[] }, { accessFlags := 9, nameIndex := 38, descriptorIndex := 39, attributes := #[] }, { accessFlags := 10, nameIndex := 24, descriptorIndex := 25, attributes := #[] }] 49 2 #[] #[])
  fields := #[]
  methods := #[k1m0, k1m1, k1m2]
  instanceTypes := #[]
  staticTypes := #[]
  resolved := Array.replicate 43 none
  statics := none }

def pool2 : Array CpInfo := pool [(1, .class_ 2), (0, u "com/example/workflow_net_analyzer/workflownetanalyzer/statespace/MarkingTable"), (0, .methodref 4 5), (0, .class_ 6), (0, .nameAndType 7 8), (0, u "java/lang/Object"), (0, u "<init>"), (0, u "()V"), (0, .class_ 10), (0, u "java/util/ArrayList"), (0, .methodref 9 5), (0, .fieldref 1 13), (0, .nameAndType 14 15), (0, u "chunks"), (0, u "Ljava/util/List;"), (0, .fieldref 1 17), (0, .nameAndType 18 19), (0, u "slots"), (0, u "[J"), (0, .fieldref 1 21), (0, .nameAndType 22 23), (0, u "places"), (0, u "I"), (0, .class_ 25), (0, u "com/example/workflow_net_analyzer/workflownetanalyzer/statespace/MarkingTable$Layout"), (0, .methodref 24 27), (0, .nameAndType 7 28), (0, u "(II)V"), (0, .fieldref 1 30), (0, .nameAndType 31 32), (0, u "layout"), (0, u "Lcom/example/workflow_net_analyzer/workflownetanalyzer/statespace/MarkingTable$Layout;"), (0, .fieldref 1 34), (0, .nameAndType 35 23), (0, u "size"), (9, u "fits"), (0, u "(J)Z"), (12, u "widen"), (0, u "(J)V"), (4, .fieldref 24 66), (0, .nameAndType 67 23), (0, u "width"), (13, .fieldref 24 82), (0, .nameAndType 83 84), (0, u "mask"), (0, u "J"), (0, .long 18446744073709551615), (77, .class_ 165), (1, u "com/example/workflow_net_analyzer/workflownetanalyzer/statespace/MarkingTable$RowChange"), (11, u "MOST_SLOTS"), (1, u "CAPACITY"), (1, u "CHUNK_LONGS"), (1, u "FIRST_SLOTS"), (1, u "MIX"), (2, u "(I)V")] 29

def k2c0 : Code := { maxStack := 5, maxLocals := 2, code := prog_50_method_1_code, exceptionTable := #[], attributes := #[] }
def k2m0 : Method := { name := "<init>", desc := "(I)V", sig := { parameters := [.int], returnType := none }, accessFlags := 0, code := some k2c0 }
def k2c1 : Code := { maxStack := 6, maxLocals := 3, code := prog_50_method_8_code, exceptionTable := #[], attributes := #[] }
def k2m1 : Method := { name := "fits", desc := "(J)Z", sig := { parameters := [.long], returnType := some .boolean }, accessFlags := 0, code := some k2c1 }
def k2c2 : Code := { maxStack := 8, maxLocals := 11, code := prog_50_method_9_code, exceptionTable := #[], attributes := #[] }
def k2m2 : Method := { name := "widen", desc := "(J)V", sig := { parameters := [.long], returnType := none }, accessFlags := 0, code := some k2c2 }
/-- com/example/workflow_net_analyzer/workflownetanalyzer/statespace/MarkingTable -/
def k2 : Class := { plain "com/example/workflow_net_analyzer/workflownetanalyzer/statespace/MarkingTable" (some 0) with
  accessFlags := 48
  interfaces := #[]
  cf := some (fileOf pool2 1 #[.nestMembers #[24, 163]] #[{ accessFlags := 0, nameIndex := 7, descriptorIndex := 188, attributes := #[] }, { accessFlags := 0, nameIndex := 45, descriptorIndex := 46, attributes := #[] }, { accessFlags := 0, nameIndex := 59, descriptorIndex := 60, attributes := #[] }] 48 4 #[] #[{ accessFlags := 26, nameIndex := 177, descriptorIndex := 23, attributes := #[] }, { accessFlags := 24, nameIndex := 179, descriptorIndex := 23, attributes := #[] }, { accessFlags := 26, nameIndex := 181, descriptorIndex := 23, attributes := #[] }, { accessFlags := 26, nameIndex := 183, descriptorIndex := 23, attributes := #[] }, { accessFlags := 26, nameIndex := 185, descriptorIndex := 84, attributes := #[] }, { accessFlags := 18, nameIndex := 22, descriptorIndex := 23, attributes := #[] }, { accessFlags := 2, nameIndex := 31, descriptorIndex := 32, attributes := #[] }, { accessFlags := 2, nameIndex := 14, descriptorIndex := 15, attributes := #[] }, { accessFlags := 2, nameIndex := 35, descriptorIndex := 23, attributes := #[] }, { accessFlags := 2, nameIndex := 18, descriptorIndex := 19, attributes := #[] }])
  fields := #[{ name := "MOST_SLOTS", type := .int, accessFlags := 26, slot := 0, constantValue := 0 }, { name := "CAPACITY", type := .int, accessFlags := 24, slot := 1, constantValue := 0 }, { name := "CHUNK_LONGS", type := .int, accessFlags := 26, slot := 2, constantValue := 0 }, { name := "FIRST_SLOTS", type := .int, accessFlags := 26, slot := 3, constantValue := 0 }, { name := "MIX", type := .long, accessFlags := 26, slot := 4, constantValue := 0 }, { name := "places", type := .int, accessFlags := 18, slot := 0, constantValue := 0 }, { name := "layout", type := (.object "com/example/workflow_net_analyzer/workflownetanalyzer/statespace/MarkingTable$Layout"), accessFlags := 2, slot := 1, constantValue := 0 }, { name := "chunks", type := (.object "java/util/List"), accessFlags := 2, slot := 2, constantValue := 0 }, { name := "size", type := .int, accessFlags := 2, slot := 3, constantValue := 0 }, { name := "slots", type := (.array .long), accessFlags := 2, slot := 4, constantValue := 0 }]
  methods := #[k2m0, k2m1, k2m2]
  instanceTypes := #[.int, (.object "com/example/workflow_net_analyzer/workflownetanalyzer/statespace/MarkingTable$Layout"), (.object "java/util/List"), .int, (.array .long)]
  staticTypes := #[.int, .int, .int, .int, .long]
  resolved := (((Array.replicate 218 none).set! 65 (some (.field 13 0))).set! 81 (some (.field 13 3)))
  statics := none }

def pool3 : Array CpInfo := pool [(8, .class_ 10), (1, u "java/lang/Iterable"), (24, .class_ 36), (0, u "java/lang/Object")] 25

/-- java/lang/Iterable -/
def k3 : Class := { plain "java/lang/Iterable" (some 0) with
  accessFlags := 1537
  interfaces := #[]
  cf := some (fileOf pool3 8 #[] #[] 1537 35 #[] #[])
  fields := #[]
  methods := #[]
  instanceTypes := #[]
  staticTypes := #[]
  resolved := Array.replicate 62 none
  statics := none }

def pool4 : Array CpInfo := pool [(10, .class_ 12), (1, u "java/util/Collection"), (47, .class_ 61), (0, u "java/lang/Object"), (0, .class_ 63), (0, u "java/lang/Iterable")] 51

/-- java/util/Collection -/
def k4 : Class := { plain "java/util/Collection" (some 0) with
  accessFlags := 1537
  interfaces := #[3]
  cf := some (fileOf pool4 10 #[] #[] 1537 60 #[62] #[])
  fields := #[]
  methods := #[]
  instanceTypes := #[]
  staticTypes := #[]
  resolved := Array.replicate 115 none
  statics := none }

def pool5 : Array CpInfo := pool [(1, .methodref 2 3), (0, .class_ 4), (0, .nameAndType 5 6), (0, u "java/lang/Object"), (0, u "<init>"), (0, u "()V"), (1, .class_ 10), (1, u "java/util/AbstractCollection"), (66, .class_ 78), (0, u "java/util/Collection")] 81

def k5c0 : Code := { maxStack := 1, maxLocals := 1, code := jdk_22_method_1_code, exceptionTable := #[], attributes := #[] }
def k5m0 : Method := { name := "<init>", desc := "()V", sig := { parameters := [], returnType := none }, accessFlags := 4, code := some k5c0 }
/-- java/util/AbstractCollection -/
def k5 : Class := { plain "java/util/AbstractCollection" (some 0) with
  accessFlags := 1057
  interfaces := #[4]
  cf := some (fileOf pool5 8 #[] #[{ accessFlags := 4, nameIndex := 5, descriptorIndex := 6, attributes := #[] }] 1057 2 #[77] #[])
  fields := #[]
  methods := #[k5m0]
  instanceTypes := #[]
  staticTypes := #[]
  resolved := Array.replicate 160 none
  statics := none }

def pool6 : Array CpInfo := pool [(8, .class_ 10), (1, u "java/util/SequencedCollection"), (15, .class_ 27), (0, u "java/lang/Object"), (0, .class_ 29), (0, u "java/util/Collection")] 27

/-- java/util/SequencedCollection -/
def k6 : Class := { plain "java/util/SequencedCollection" (some 0) with
  accessFlags := 1537
  interfaces := #[4]
  cf := some (fileOf pool6 8 #[] #[] 1537 26 #[28] #[])
  fields := #[]
  methods := #[]
  instanceTypes := #[]
  staticTypes := #[]
  resolved := Array.replicate 57 none
  statics := none }

def pool7 : Array CpInfo := pool [(8, .class_ 10), (1, u "java/util/List"), (92, .class_ 104), (0, u "java/lang/Object"), (15, .class_ 121), (0, u "java/util/SequencedCollection")] 129

/-- java/util/List -/
def k7 : Class := { plain "java/util/List" (some 0) with
  accessFlags := 1537
  interfaces := #[6]
  cf := some (fileOf pool7 8 #[] #[] 1537 103 #[120] #[])
  fields := #[]
  methods := #[]
  instanceTypes := #[]
  staticTypes := #[]
  resolved := Array.replicate 251 none
  statics := none }

def pool8 : Array CpInfo := pool [(1, .methodref 2 3), (0, .class_ 4), (0, .nameAndType 5 6), (0, u "java/util/AbstractCollection"), (0, u "<init>"), (0, u "()V"), (0, .fieldref 8 9), (0, .class_ 10), (0, .nameAndType 11 12), (0, u "java/util/AbstractList"), (0, u "modCount"), (0, u "I"), (64, .class_ 78), (0, u "java/util/AbstractList$Itr"), (3, .class_ 83), (0, u "java/util/AbstractList$ListItr"), (9, .class_ 94), (0, u "java/util/AbstractList$RandomAccessSubList"), (3, .class_ 99), (0, u "java/util/AbstractList$SubList"), (33, .class_ 134), (0, u "java/util/List"), (73, .class_ 209), (0, u "java/util/AbstractList$SubList$1"), (0, .class_ 211), (0, u "java/util/AbstractList$RandomAccessSpliterator")] 6

def k8c0 : Code := { maxStack := 2, maxLocals := 1, code := jdk_39_method_1_code, exceptionTable := #[], attributes := #[] }
def k8m0 : Method := { name := "<init>", desc := "()V", sig := { parameters := [], returnType := none }, accessFlags := 4, code := some k8c0 }
/-- java/util/AbstractList -/
def k8 : Class := { plain "java/util/AbstractList" (some 5) with
  accessFlags := 1057
  interfaces := #[7]
  cf := some (fileOf pool8 8 #[.nestMembers #[93, 98, 208, 210, 82, 77]] #[{ accessFlags := 4, nameIndex := 5, descriptorIndex := 6, attributes := #[] }] 1057 2 #[133] #[{ accessFlags := 132, nameIndex := 11, descriptorIndex := 12, attributes := #[] }])
  fields := #[{ name := "modCount", type := .int, accessFlags := 132, slot := 0, constantValue := 0 }]
  methods := #[k8m0]
  instanceTypes := #[.int]
  staticTypes := #[]
  resolved := Array.replicate 218 none
  statics := none }

def pool9 : Array CpInfo := pool [(1, .class_ 2), (0, u "java/util/RandomAccess"), (0, .class_ 4), (0, u "java/lang/Object")] 2

/-- java/util/RandomAccess -/
def k9 : Class := { plain "java/util/RandomAccess" (some 0) with
  accessFlags := 1537
  interfaces := #[]
  cf := some (fileOf pool9 1 #[] #[] 1537 3 #[] #[])
  fields := #[]
  methods := #[]
  instanceTypes := #[]
  staticTypes := #[]
  resolved := Array.replicate 7 none
  statics := none }

def pool10 : Array CpInfo := pool [(1, .class_ 2), (0, u "java/lang/Cloneable"), (0, .class_ 4), (0, u "java/lang/Object")] 2

/-- java/lang/Cloneable -/
def k10 : Class := { plain "java/lang/Cloneable" (some 0) with
  accessFlags := 1537
  interfaces := #[]
  cf := some (fileOf pool10 1 #[] #[] 1537 3 #[] #[])
  fields := #[]
  methods := #[]
  instanceTypes := #[]
  staticTypes := #[]
  resolved := Array.replicate 7 none
  statics := none }

def pool11 : Array CpInfo := pool [(1, .class_ 2), (0, u "java/io/Serializable"), (0, .class_ 4), (0, u "java/lang/Object")] 2

/-- java/io/Serializable -/
def k11 : Class := { plain "java/io/Serializable" (some 0) with
  accessFlags := 1537
  interfaces := #[]
  cf := some (fileOf pool11 1 #[] #[] 1537 3 #[] #[])
  fields := #[]
  methods := #[]
  instanceTypes := #[]
  staticTypes := #[]
  resolved := Array.replicate 7 none
  statics := none }

def pool12 : Array CpInfo := pool [(1, .methodref 2 3), (0, .class_ 4), (0, .nameAndType 5 6), (0, u "java/util/AbstractList"), (0, u "<init>"), (0, u "()V"), (2, .fieldref 10 11), (0, .class_ 12), (0, .nameAndType 13 14), (0, u "java/util/ArrayList"), (0, u "elementData"), (0, u "[Ljava/lang/Object;"), (2, u "EMPTY_ELEMENTDATA"), (21, .fieldref 10 40), (0, .nameAndType 41 14), (0, u "DEFAULTCAPACITY_EMPTY_ELEMENTDATA"), (8, u "size"), (0, u "I"), (96, .class_ 149), (0, u "java/util/List"), (112, .class_ 263), (0, u "java/util/ArrayList$ListItr"), (3, .class_ 268), (0, u "java/util/ArrayList$Itr"), (7, .class_ 277), (0, u "java/util/ArrayList$SubList"), (12, .class_ 291), (0, u "java/util/ArrayList$ArrayListSpliterator"), (37, .class_ 330), (0, u "java/util/RandomAccess"), (0, .class_ 332), (0, u "java/lang/Cloneable"), (0, .class_ 334), (0, u "java/io/Serializable"), (0, u "serialVersionUID"), (0, u "J"), (3, u "DEFAULT_CAPACITY"), (159, .class_ 501), (0, u "java/util/ArrayList$SubList$2"), (0, .class_ 503), (0, u "java/util/ArrayList$SubList$1")] 5

def k12c0 : Code := { maxStack := 2, maxLocals := 1, code := jdk_38_method_2_code, exceptionTable := #[], attributes := #[] }
def k12m0 : Method := { name := "<init>", desc := "()V", sig := { parameters := [], returnType := none }, accessFlags := 1, code := some k12c0 }
/-- java/util/ArrayList -/
def k12 : Class := { plain "java/util/ArrayList" (some 8) with
  accessFlags := 33
  interfaces := #[7, 9, 10, 11]
  cf := some (fileOf pool12 10 #[.nestMembers #[290, 276, 500, 502, 262, 267]] #[{ accessFlags := 1, nameIndex := 5, descriptorIndex := 6, attributes := #[] }] 33 2 #[148, 329, 331, 333] #[{ accessFlags := 26, nameIndex := 335, descriptorIndex := 336, attributes := #[] }, { accessFlags := 26, nameIndex := 340, descriptorIndex := 51, attributes := #[] }, { accessFlags := 26, nameIndex := 17, descriptorIndex := 14, attributes := #[] }, { accessFlags := 26, nameIndex := 41, descriptorIndex := 14, attributes := #[] }, { accessFlags := 128, nameIndex := 13, descriptorIndex := 14, attributes := #[] }, { accessFlags := 2, nameIndex := 50, descriptorIndex := 51, attributes := #[] }])
  fields := #[{ name := "serialVersionUID", type := .long, accessFlags := 26, slot := 0, constantValue := 0 }, { name := "DEFAULT_CAPACITY", type := .int, accessFlags := 26, slot := 1, constantValue := 0 }, { name := "EMPTY_ELEMENTDATA", type := (.array (.object "java/lang/Object")), accessFlags := 26, slot := 2, constantValue := 0 }, { name := "DEFAULTCAPACITY_EMPTY_ELEMENTDATA", type := (.array (.object "java/lang/Object")), accessFlags := 26, slot := 3, constantValue := 0 }, { name := "elementData", type := (.array (.object "java/lang/Object")), accessFlags := 128, slot := 1, constantValue := 0 }, { name := "size", type := .int, accessFlags := 2, slot := 2, constantValue := 0 }]
  methods := #[k12m0]
  instanceTypes := #[.int, (.array (.object "java/lang/Object")), .int]
  staticTypes := #[.long, .int, (.array (.object "java/lang/Object")), (.array (.object "java/lang/Object"))]
  resolved := Array.replicate 509 none
  statics := some 0 }

def pool13 : Array CpInfo := pool [(1, .class_ 2), (0, u "com/example/workflow_net_analyzer/workflownetanalyzer/statespace/MarkingTable"), (0, .methodref 4 5), (0, .class_ 6), (0, .nameAndType 7 8), (0, u "java/lang/Object"), (0, u "<init>"), (0, u "()V"), (0, .fieldref 10 11), (0, .class_ 12), (0, .nameAndType 13 14), (0, u "com/example/workflow_net_analyzer/workflownetanalyzer/statespace/MarkingTable$Layout"), (0, u "width"), (0, u "I"), (0, .methodref 16 17), (0, .class_ 18), (0, .nameAndType 19 20), (0, u "java/lang/Integer"), (0, u "numberOfTrailingZeros"), (0, u "(I)I"), (0, .fieldref 10 22), (0, .nameAndType 23 14), (0, u "widthShift"), (0, .fieldref 10 25), (0, .nameAndType 26 14), (0, u "longShift"), (0, .long 18446744073709551615), (1, .fieldref 10 30), (0, .nameAndType 31 32), (0, u "mask"), (0, u "J"), (0, .methodref 34 35), (0, .class_ 36), (0, .nameAndType 37 38), (0, u "java/lang/Math"), (0, u "max"), (0, u "(II)I"), (0, .fieldref 10 40), (0, .nameAndType 41 14), (0, u "stride"), (0, .integer 65536), (0, .methodref 16 44), (0, .nameAndType 45 20), (0, u "numberOfLeadingZeros"), (0, .fieldref 10 47), (0, .nameAndType 48 14), (0, u "chunkShift"), (3, u "(II)V")] 22

def k13c0 : Code := { maxStack := 5, maxLocals := 3, code := prog_51_method_1_code, exceptionTable := #[], attributes := #[] }
def k13m0 : Method := { name := "<init>", desc := "(II)V", sig := { parameters := [.int, .int], returnType := none }, accessFlags := 0, code := some k13c0 }
/-- com/example/workflow_net_analyzer/workflownetanalyzer/statespace/MarkingTable$Layout -/
def k13 : Class := { plain "com/example/workflow_net_analyzer/workflownetanalyzer/statespace/MarkingTable$Layout" (some 0) with
  accessFlags := 48
  interfaces := #[]
  cf := some (fileOf pool13 10 #[.nestHost 1] #[{ accessFlags := 0, nameIndex := 7, descriptorIndex := 52, attributes := #[] }] 48 4 #[] #[{ accessFlags := 18, nameIndex := 13, descriptorIndex := 14, attributes := #[] }, { accessFlags := 18, nameIndex := 23, descriptorIndex := 14, attributes := #[] }, { accessFlags := 18, nameIndex := 26, descriptorIndex := 14, attributes := #[] }, { accessFlags := 18, nameIndex := 31, descriptorIndex := 32, attributes := #[] }, { accessFlags := 18, nameIndex := 41, descriptorIndex := 14, attributes := #[] }, { accessFlags := 18, nameIndex := 48, descriptorIndex := 14, attributes := #[] }])
  fields := #[{ name := "width", type := .int, accessFlags := 18, slot := 0, constantValue := 0 }, { name := "widthShift", type := .int, accessFlags := 18, slot := 1, constantValue := 0 }, { name := "longShift", type := .int, accessFlags := 18, slot := 2, constantValue := 0 }, { name := "mask", type := .long, accessFlags := 18, slot := 3, constantValue := 0 }, { name := "stride", type := .int, accessFlags := 18, slot := 4, constantValue := 0 }, { name := "chunkShift", type := .int, accessFlags := 18, slot := 5, constantValue := 0 }]
  methods := #[k13m0]
  instanceTypes := #[.int, .int, .int, .long, .int, .int]
  staticTypes := #[]
  resolved := Array.replicate 75 none
  statics := none }

def pool14 : Array CpInfo := pool [(2, .class_ 4), (1, u "java/lang/Object"), (0, u "<init>"), (0, u "()V"), (1, .class_ 10), (1, u "java/lang/Number"), (2, .class_ 14), (0, u "java/io/Serializable"), (0, u "serialVersionUID"), (0, u "J")] 20

def k14m0 : Method := { name := "<init>", desc := "()V", sig := { parameters := [], returnType := none }, accessFlags := 1, code := none }
/-- java/lang/Number -/
def k14 : Class := { plain "java/lang/Number" (some 0) with
  accessFlags := 1057
  interfaces := #[11]
  cf := some (fileOf pool14 8 #[] #[{ accessFlags := 1, nameIndex := 5, descriptorIndex := 6, attributes := #[] }] 1057 2 #[13] #[{ accessFlags := 26, nameIndex := 15, descriptorIndex := 16, attributes := #[] }])
  fields := #[{ name := "serialVersionUID", type := .long, accessFlags := 26, slot := 0, constantValue := 0 }]
  methods := #[k14m0]
  instanceTypes := #[]
  staticTypes := #[.long]
  resolved := Array.replicate 37 none
  statics := none }

def pool15 : Array CpInfo := pool [(1, .class_ 2), (0, u "java/lang/Comparable"), (0, .class_ 4), (0, u "java/lang/Object")] 7

/-- java/lang/Comparable -/
def k15 : Class := { plain "java/lang/Comparable" (some 0) with
  accessFlags := 1537
  interfaces := #[]
  cf := some (fileOf pool15 1 #[] #[] 1537 3 #[] #[])
  fields := #[]
  methods := #[]
  instanceTypes := #[]
  staticTypes := #[]
  resolved := Array.replicate 12 none
  statics := none }

def pool16 : Array CpInfo := pool [(1, .class_ 2), (0, u "java/lang/constant/Constable"), (0, .class_ 4), (0, u "java/lang/Object")] 6

/-- java/lang/constant/Constable -/
def k16 : Class := { plain "java/lang/constant/Constable" (some 0) with
  accessFlags := 1537
  interfaces := #[]
  cf := some (fileOf pool16 1 #[] #[] 1537 3 #[] #[])
  fields := #[]
  methods := #[]
  instanceTypes := #[]
  staticTypes := #[]
  resolved := Array.replicate 11 none
  statics := none }

def pool17 : Array CpInfo := pool [(1, .class_ 2), (0, u "java/lang/constant/ConstantDesc"), (0, .class_ 4), (0, u "java/lang/Object")] 32

/-- java/lang/constant/ConstantDesc -/
def k17 : Class := { plain "java/lang/constant/ConstantDesc" (some 0) with
  accessFlags := 1537
  interfaces := #[]
  cf := some (fileOf pool17 1 #[] #[] 1537 3 #[] #[])
  fields := #[]
  methods := #[]
  instanceTypes := #[]
  staticTypes := #[]
  resolved := Array.replicate 37 none
  statics := none }

def pool18 : Array CpInfo := pool [(1, .class_ 2), (0, u "java/lang/Integer"), (16, u "digits"), (0, u "[C"), (32, u "numberOfLeadingZeros"), (0, u "(I)I"), (30, u "DigitOnes"), (0, u "[B"), (2, u "DigitTens"), (99, .class_ 190), (0, u "java/lang/Integer$IntegerCache"), (3, u "I"), (8, .class_ 204), (0, u "java/lang/Number"), (2, u "value"), (56, .integer 65536), (37, u "TYPE"), (0, u "Ljava/lang/Class;"), (0, .class_ 305), (0, u "java/lang/Comparable"), (0, .class_ 307), (0, u "java/lang/constant/Constable"), (0, .class_ 309), (0, u "java/lang/constant/ConstantDesc"), (0, u "MIN_VALUE"), (1, u "MAX_VALUE"), (3, u "SIZE"), (1, u "BYTES"), (1, u "serialVersionUID"), (0, u "J"), (84, u "numberOfTrailingZeros")] 46

def k18c0 : Code := { maxStack := 3, maxLocals := 2, code := jdk_33_method_47_code, exceptionTable := #[], attributes := #[] }
def k18m0 : Method := { name := "numberOfLeadingZeros", desc := "(I)I", sig := { parameters := [.int], returnType := some .int }, accessFlags := 9, code := some k18c0 }
def k18c1 : Code := { maxStack := 3, maxLocals := 2, code := jdk_33_method_48_code, exceptionTable := #[], attributes := #[] }
def k18m1 : Method := { name := "numberOfTrailingZeros", desc := "(I)I", sig := { parameters := [.int], returnType := some .int }, accessFlags := 9, code := some k18c1 }
/-- java/lang/Integer -/
def k18 : Class := { plain "java/lang/Integer" (some 14) with
  accessFlags := 49
  interfaces := #[15, 16, 17]
  cf := some (fileOf pool18 1 #[.nestMembers #[189]] #[{ accessFlags := 9, nameIndex := 53, descriptorIndex := 54, attributes := #[] }, { accessFlags := 9, nameIndex := 406, descriptorIndex := 54, attributes := #[] }] 49 203 #[304, 306, 308] #[{ accessFlags := 25, nameIndex := 310, descriptorIndex := 194, attributes := #[] }, { accessFlags := 25, nameIndex := 312, descriptorIndex := 194, attributes := #[] }, { accessFlags := 25, nameIndex := 302, descriptorIndex := 303, attributes := #[] }, { accessFlags := 24, nameIndex := 19, descriptorIndex := 20, attributes := #[] }, { accessFlags := 24, nameIndex := 89, descriptorIndex := 86, attributes := #[] }, { accessFlags := 24, nameIndex := 85, descriptorIndex := 86, attributes := #[] }, { accessFlags := 18, nameIndex := 207, descriptorIndex := 194, attributes := #[] }, { accessFlags := 25, nameIndex := 316, descriptorIndex := 194, attributes := #[] }, { accessFlags := 25, nameIndex := 318, descriptorIndex := 194, attributes := #[] }, { accessFlags := 26, nameIndex := 320, descriptorIndex := 321, attributes := #[] }])
  fields := #[{ name := "MIN_VALUE", type := .int, accessFlags := 25, slot := 0, constantValue := 0 }, { name := "MAX_VALUE", type := .int, accessFlags := 25, slot := 1, constantValue := 0 }, { name := "TYPE", type := (.object "java/lang/Class"), accessFlags := 25, slot := 2, constantValue := 0 }, { name := "digits", type := (.array .char), accessFlags := 24, slot := 3, constantValue := 0 }, { name := "DigitTens", type := (.array .byte), accessFlags := 24, slot := 4, constantValue := 0 }, { name := "DigitOnes", type := (.array .byte), accessFlags := 24, slot := 5, constantValue := 0 }, { name := "value", type := .int, accessFlags := 18, slot := 0, constantValue := 0 }, { name := "SIZE", type := .int, accessFlags := 25, slot := 6, constantValue := 0 }, { name := "BYTES", type := .int, accessFlags := 25, slot := 7, constantValue := 0 }, { name := "serialVersionUID", type := .long, accessFlags := 26, slot := 8, constantValue := 0 }]
  methods := #[k18m0, k18m1]
  instanceTypes := #[.int]
  staticTypes := #[.int, .int, (.object "java/lang/Class"), (.array .char), (.array .byte), (.array .byte), .int, .int, .long]
  resolved := Array.replicate 453 none
  statics := none }

def pool19 : Array CpInfo := pool [(1, .class_ 2), (0, u "java/lang/Math"), (1, .class_ 6), (1, u "java/lang/Object"), (0, u "<init>"), (0, u "()V"), (89, .class_ 100), (1, u "java/lang/Math$RandomNumberGeneratorHolder"), (71, u "negativeZeroFloatBits"), (0, u "J"), (2, u "negativeZeroDoubleBits"), (21, u "max"), (46, u "$assertionsDisabled"), (0, u "Z"), (88, u "(II)I"), (2, u "twoToTheDoubleScaleDown"), (0, u "D"), (4, u "twoToTheDoubleScaleUp"), (9, u "E"), (3, u "PI"), (2, u "TAU"), (2, u "DEGREES_TO_RADIANS"), (0, u "RADIANS_TO_DEGREES")] 94

def k19m0 : Method := { name := "<init>", desc := "()V", sig := { parameters := [], returnType := none }, accessFlags := 2, code := none }
def k19c1 : Code := { maxStack := 2, maxLocals := 2, code := jdk_29_method_65_code, exceptionTable := #[], attributes := #[] }
def k19m1 : Method := { name := "max", desc := "(II)I", sig := { parameters := [.int, .int], returnType := some .int }, accessFlags := 9, code := some k19c1 }
/-- java/lang/Math -/
def k19 : Class := { plain "java/lang/Math" (some 0) with
  accessFlags := 49
  interfaces := #[]
  cf := some (fileOf pool19 1 #[.nestMembers #[98]] #[{ accessFlags := 2, nameIndex := 7, descriptorIndex := 8, attributes := #[] }, { accessFlags := 9, nameIndex := 198, descriptorIndex := 335, attributes := #[] }] 49 4 #[] #[{ accessFlags := 25, nameIndex := 354, descriptorIndex := 339, attributes := #[] }, { accessFlags := 25, nameIndex := 358, descriptorIndex := 339, attributes := #[] }, { accessFlags := 25, nameIndex := 361, descriptorIndex := 339, attributes := #[] }, { accessFlags := 26, nameIndex := 364, descriptorIndex := 339, attributes := #[] }, { accessFlags := 26, nameIndex := 365, descriptorIndex := 339, attributes := #[] }, { accessFlags := 26, nameIndex := 172, descriptorIndex := 173, attributes := #[] }, { accessFlags := 26, nameIndex := 176, descriptorIndex := 173, attributes := #[] }, { accessFlags := 8, nameIndex := 344, descriptorIndex := 339, attributes := #[] }, { accessFlags := 8, nameIndex := 338, descriptorIndex := 339, attributes := #[] }, { accessFlags := 4120, nameIndex := 245, descriptorIndex := 246, attributes := #[] }])
  fields := #[{ name := "E", type := .double, accessFlags := 25, slot := 0, constantValue := 0 }, { name := "PI", type := .double, accessFlags := 25, slot := 1, constantValue := 0 }, { name := "TAU", type := .double, accessFlags := 25, slot := 2, constantValue := 0 }, { name := "DEGREES_TO_RADIANS", type := .double, accessFlags := 26, slot := 3, constantValue := 0 }, { name := "RADIANS_TO_DEGREES", type := .double, accessFlags := 26, slot := 4, constantValue := 0 }, { name := "negativeZeroFloatBits", type := .long, accessFlags := 26, slot := 5, constantValue := 0 }, { name := "negativeZeroDoubleBits", type := .long, accessFlags := 26, slot := 6, constantValue := 0 }, { name := "twoToTheDoubleScaleUp", type := .double, accessFlags := 8, slot := 7, constantValue := 0 }, { name := "twoToTheDoubleScaleDown", type := .double, accessFlags := 8, slot := 8, constantValue := 0 }, { name := "$assertionsDisabled", type := .boolean, accessFlags := 4120, slot := 9, constantValue := 0 }]
  methods := #[k19m0, k19m1]
  instanceTypes := #[]
  staticTypes := #[.double, .double, .double, .double, .double, .long, .long, .double, .double, .boolean]
  resolved := Array.replicate 460 none
  statics := none }

/-- the primitive byte -/
def k20 : Class := { plain "byte" none with kind := .primitive 'B', accessFlags := 0x411 }
/-- [B -/
def k21 : Class := { plain "[B" (some 0) with kind := .array 20 .byte, interfaces := #[10, 11], accessFlags := 1041 }

/-- the primitive int -/
def k22 : Class := { plain "int" none with kind := .primitive 'I', accessFlags := 0x411 }
/-- [I -/
def k23 : Class := { plain "[I" (some 0) with kind := .array 22 .int, interfaces := #[10, 11], accessFlags := 1041 }

/-- the primitive long -/
def k24 : Class := { plain "long" none with kind := .primitive 'J', accessFlags := 0x411 }
/-- [J -/
def k25 : Class := { plain "[J" (some 0) with kind := .array 24 .long, interfaces := #[10, 11], accessFlags := 1041 }

/-- [Ljava/lang/Object; -/
def k26 : Class := { plain "[Ljava/lang/Object;" (some 0) with kind := .array 0 (.object "java/lang/Object"), interfaces := #[10, 11], accessFlags := 1041 }

def heap : Heap := #[{ cls := 12, slots := #[.long 0, .int 0, .ref 1, .ref 2], vm := .statics 12 },
  { cls := 26, slots := #[], vm := .none },
  { cls := 26, slots := #[], vm := .none }]
def classes : Array Class := #[k0, k1, k2, k3, k4, k5, k6, k7, k8, k9, k10, k11, k12, k13, k14, k15, k16, k17, k18, k19, k20, k21, k22, k23, k24, k25, k26]
def interned : List (Array UInt16 × Addr) := []
def slotsUsed : Nat := 4
def theMethod : MethodId := ⟨1, 1⟩
def args0 : Array Value := #[.long 5, .long 7, .int 3, .int 1]
def aboutOver (below : List Frame) : State where
  vm := { classes := classes, interned := interned.toArray }
  heap := heap
  slotsUsed := slotsUsed
  threads := #[{ frames := .invoking theMethod args0 :: below }]
def below0 : List Frame := [.native { method := ⟨0, 0⟩, args := #[] }]
def about1 : State := aboutOver below0
def p0 : Program := .bare "" "" ""
def e0 : Env := launch0.env 0 0 0
theorem w_frames : about1.frames = Frame.invoking theMethod args0 :: below0 := rfl
set_option maxRecDepth 65536 in
theorem w_args : argsFit about1.vm theMethod args0 = true := by decide +kernel
set_option maxRecDepth 65536 in
theorem w_heap : heapFits about1 = true := by decide +kernel
set_option maxRecDepth 65536 in
theorem w_runnable : about1.curStatus? = some .runnable := by decide +kernel
set_option maxRecDepth 65536 in
theorem w_alone : about1.alone = true := by decide +kernel
set_option maxRecDepth 65536 in
theorem w_named : about1.methodNamed? x = some theMethod := by decide +kernel
set_option maxRecDepth 65536 in
theorem w_hears : about1.hears theMethod below0 = true := by decide +kernel
set_option maxRecDepth 65536 in
theorem w_ripe : about1.ripe theMethod args0 below0 = true := by decide +kernel
theorem w_running : about1.status = .running := rfl
set_option maxRecDepth 65536 in
theorem w_room : about1.hasRoom e0.platform room_1 = true :=
  launch0.hasRoom_least _ room_1 (by decide +kernel) (by decide +kernel) (by decide +kernel) (by decide +kernel) (by decide +kernel) (by decide +kernel)
theorem allAtoms_all (ts : List Jvm.Cond) (a : Array Jvm.Value) (st : Jvm.State) : (allAtoms ts).before a st = ts.all (fun c => c.before a st) := by
  induction ts with
  | nil => rfl
  | cons c t ih =>
    show (Jvm.Cond.and c (allAtoms t)).before a st = _
    rw [Jvm.Cond.before_and, ih, List.all_cons]
def words1 : List Jvm.Cond := Jvm.Cond.code x code maxLocals ret :: tables_1
/-- a 'code' word, met by the world's own term for the bytes: nothing is compared byte by byte -/
theorem code_word {y : MethodName} {bytes : ByteArray} {mx : Nat} {rt : Option FieldType} {a : Array Value} {s : State} {m : MethodId} {meth : Method} {c : Code} (h1 : s.methodNamed? y = some m) (h2 : s.vm.method? m = some meth) (h3 : meth.code = some c) (h4 : c.code = bytes)
    (h5 : (c.maxLocals == mx && c.exceptionTable.isEmpty && decide (c.maxStack ≤ mostOperands) && decide (meth.sig.returnType = rt) && !meth.locks && decide (parseMethodDescriptor y.desc = some meth.sig)) = true) : (Jvm.Cond.code y bytes mx rt).before a s = true := by
  simp only [Bool.and_eq_true, beq_iff_eq, Bool.not_eq_true', decide_eq_true_eq] at h5
  obtain ⟨⟨⟨⟨⟨g1, g2⟩, g3⟩, g4⟩, g5⟩, g6⟩ := h5
  simp [Cond.before, Cond.holds, Cond.value, h1, h2, h3, h4, g1, g2, g3, g4, g5, g6]
def isCode : Jvm.Cond → Bool
  | .code _ _ _ _ => true
  | _ => false
theorem all_split {L : List Jvm.Cond} {P : Jvm.Cond → Bool} (h1 : L.all (fun c => isCode c || P c) = true) (h2 : ∀ c ∈ L.filter isCode, P c = true) : L.all P = true := by
  refine List.all_eq_true.mpr fun c hc => ?_
  have h := List.all_eq_true.mp h1 c hc
  rcases Bool.eq_false_or_eq_true (isCode c) with hi | hi
  · exact h2 c (List.mem_filter.mpr ⟨hc, hi⟩)
  · simpa [hi] using h
set_option maxRecDepth 65536 in
theorem w_c0 : (Jvm.Cond.code x code maxLocals ret).before args0 about1 = true := code_word (m := ⟨1, 1⟩) (meth := k1m1) (c := k1c1) (by decide +kernel) rfl rfl rfl (by decide +kernel)
set_option maxRecDepth 65536 in
theorem w_c1 : (Jvm.Cond.code ({ cls := "com/example/workflow_net_analyzer/workflownetanalyzer/statespace/MarkingTable", name := "<init>", desc := "(I)V" } : Jvm.MethodName) prog_50_method_1_code (2 : Nat) (Option.none : Option Jvm.ClassFile.FieldType)).before args0 about1 = true := code_word (m := ⟨2, 0⟩) (meth := k2m0) (c := k2c0) (by decide +kernel) rfl rfl rfl (by decide +kernel)
set_option maxRecDepth 65536 in
theorem w_c2 : (Jvm.Cond.code ({ cls := "java/lang/Object", name := "<init>", desc := "()V" } : Jvm.MethodName) object_method_1_code (1 : Nat) (Option.none : Option Jvm.ClassFile.FieldType)).before args0 about1 = true := code_word (m := ⟨0, 0⟩) (meth := k0m0) (c := k0c0) (by decide +kernel) rfl rfl rfl (by decide +kernel)
set_option maxRecDepth 65536 in
theorem w_c3 : (Jvm.Cond.code ({ cls := "java/util/ArrayList", name := "<init>", desc := "()V" } : Jvm.MethodName) jdk_38_method_2_code (1 : Nat) (Option.none : Option Jvm.ClassFile.FieldType)).before args0 about1 = true := code_word (m := ⟨12, 0⟩) (meth := k12m0) (c := k12c0) (by decide +kernel) rfl rfl rfl (by decide +kernel)
set_option maxRecDepth 65536 in
theorem w_c4 : (Jvm.Cond.code ({ cls := "java/util/AbstractList", name := "<init>", desc := "()V" } : Jvm.MethodName) jdk_39_method_1_code (1 : Nat) (Option.none : Option Jvm.ClassFile.FieldType)).before args0 about1 = true := code_word (m := ⟨8, 0⟩) (meth := k8m0) (c := k8c0) (by decide +kernel) rfl rfl rfl (by decide +kernel)
set_option maxRecDepth 65536 in
theorem w_c5 : (Jvm.Cond.code ({ cls := "java/util/AbstractCollection", name := "<init>", desc := "()V" } : Jvm.MethodName) jdk_22_method_1_code (1 : Nat) (Option.none : Option Jvm.ClassFile.FieldType)).before args0 about1 = true := code_word (m := ⟨5, 0⟩) (meth := k5m0) (c := k5c0) (by decide +kernel) rfl rfl rfl (by decide +kernel)
set_option maxRecDepth 65536 in
theorem w_c6 : (Jvm.Cond.code ({ cls := "com/example/workflow_net_analyzer/workflownetanalyzer/statespace/MarkingTable$Layout", name := "<init>", desc := "(II)V" } : Jvm.MethodName) prog_51_method_1_code (3 : Nat) (Option.none : Option Jvm.ClassFile.FieldType)).before args0 about1 = true := code_word (m := ⟨13, 0⟩) (meth := k13m0) (c := k13c0) (by decide +kernel) rfl rfl rfl (by decide +kernel)
set_option maxRecDepth 65536 in
theorem w_c7 : (Jvm.Cond.code ({ cls := "java/lang/Integer", name := "numberOfTrailingZeros", desc := "(I)I" } : Jvm.MethodName) jdk_33_method_48_code (2 : Nat) (Option.some Jvm.ClassFile.FieldType.int)).before args0 about1 = true := code_word (m := ⟨18, 1⟩) (meth := k18m1) (c := k18c1) (by decide +kernel) rfl rfl rfl (by decide +kernel)
set_option maxRecDepth 65536 in
theorem w_c8 : (Jvm.Cond.code ({ cls := "java/lang/Math", name := "max", desc := "(II)I" } : Jvm.MethodName) jdk_29_method_65_code (2 : Nat) (Option.some Jvm.ClassFile.FieldType.int)).before args0 about1 = true := code_word (m := ⟨19, 1⟩) (meth := k19m1) (c := k19c1) (by decide +kernel) rfl rfl rfl (by decide +kernel)
set_option maxRecDepth 65536 in
theorem w_c9 : (Jvm.Cond.code ({ cls := "java/lang/Integer", name := "numberOfLeadingZeros", desc := "(I)I" } : Jvm.MethodName) jdk_33_method_47_code (2 : Nat) (Option.some Jvm.ClassFile.FieldType.int)).before args0 about1 = true := code_word (m := ⟨18, 0⟩) (meth := k18m0) (c := k18c0) (by decide +kernel) rfl rfl rfl (by decide +kernel)
set_option maxRecDepth 65536 in
theorem w_c10 : (Jvm.Cond.code ({ cls := "com/example/workflow_net_analyzer/workflownetanalyzer/statespace/MarkingTable", name := "widen", desc := "(J)V" } : Jvm.MethodName) prog_50_method_9_code (11 : Nat) (Option.none : Option Jvm.ClassFile.FieldType)).before args0 about1 = true := code_word (m := ⟨2, 2⟩) (meth := k2m2) (c := k2c2) (by decide +kernel) rfl rfl rfl (by decide +kernel)
set_option maxRecDepth 65536 in
theorem w_c11 : (Jvm.Cond.code ({ cls := "com/example/workflow_net_analyzer/workflownetanalyzer/statespace/MarkingTable", name := "fits", desc := "(J)Z" } : Jvm.MethodName) prog_50_method_8_code (3 : Nat) (Option.some Jvm.ClassFile.FieldType.boolean)).before args0 about1 = true := code_word (m := ⟨2, 1⟩) (meth := k2m1) (c := k2c1) (by decide +kernel) rfl rfl rfl (by decide +kernel)
set_option maxRecDepth 65536 in
theorem w_c12 : (Jvm.Cond.code ({ cls := "com/example/workflow_net_analyzer/workflownetanalyzer/statespace/MarkingTableFitsPinLaw", name := "expected", desc := "(JJ)Z" } : Jvm.MethodName) method_3_code (6 : Nat) (Option.some Jvm.ClassFile.FieldType.boolean)).before args0 about1 = true := code_word (m := ⟨1, 2⟩) (meth := k1m2) (c := k1c2) (by decide +kernel) rfl rfl rfl (by decide +kernel)
def codes1 : List Jvm.Cond := [Jvm.Cond.code x code maxLocals ret, Jvm.Cond.code ({ cls := "com/example/workflow_net_analyzer/workflownetanalyzer/statespace/MarkingTable", name := "<init>", desc := "(I)V" } : Jvm.MethodName) prog_50_method_1_code (2 : Nat) (Option.none : Option Jvm.ClassFile.FieldType), Jvm.Cond.code ({ cls := "java/lang/Object", name := "<init>", desc := "()V" } : Jvm.MethodName) object_method_1_code (1 : Nat) (Option.none : Option Jvm.ClassFile.FieldType), Jvm.Cond.code ({ cls := "java/util/ArrayList", name := "<init>", desc := "()V" } : Jvm.MethodName) jdk_38_method_2_code (1 : Nat) (Option.none : Option Jvm.ClassFile.FieldType), Jvm.Cond.code ({ cls := "java/util/AbstractList", name := "<init>", desc := "()V" } : Jvm.MethodName) jdk_39_method_1_code (1 : Nat) (Option.none : Option Jvm.ClassFile.FieldType), Jvm.Cond.code ({ cls := "java/util/AbstractCollection", name := "<init>", desc := "()V" } : Jvm.MethodName) jdk_22_method_1_code (1 : Nat) (Option.none : Option Jvm.ClassFile.FieldType), Jvm.Cond.code ({ cls := "com/example/workflow_net_analyzer/workflownetanalyzer/statespace/MarkingTable$Layout", name := "<init>", desc := "(II)V" } : Jvm.MethodName) prog_51_method_1_code (3 : Nat) (Option.none : Option Jvm.ClassFile.FieldType), Jvm.Cond.code ({ cls := "java/lang/Integer", name := "numberOfTrailingZeros", desc := "(I)I" } : Jvm.MethodName) jdk_33_method_48_code (2 : Nat) (Option.some Jvm.ClassFile.FieldType.int), Jvm.Cond.code ({ cls := "java/lang/Math", name := "max", desc := "(II)I" } : Jvm.MethodName) jdk_29_method_65_code (2 : Nat) (Option.some Jvm.ClassFile.FieldType.int), Jvm.Cond.code ({ cls := "java/lang/Integer", name := "numberOfLeadingZeros", desc := "(I)I" } : Jvm.MethodName) jdk_33_method_47_code (2 : Nat) (Option.some Jvm.ClassFile.FieldType.int), Jvm.Cond.code ({ cls := "com/example/workflow_net_analyzer/workflownetanalyzer/statespace/MarkingTable", name := "widen", desc := "(J)V" } : Jvm.MethodName) prog_50_method_9_code (11 : Nat) (Option.none : Option Jvm.ClassFile.FieldType), Jvm.Cond.code ({ cls := "com/example/workflow_net_analyzer/workflownetanalyzer/statespace/MarkingTable", name := "fits", desc := "(J)Z" } : Jvm.MethodName) prog_50_method_8_code (3 : Nat) (Option.some Jvm.ClassFile.FieldType.boolean), Jvm.Cond.code ({ cls := "com/example/workflow_net_analyzer/workflownetanalyzer/statespace/MarkingTableFitsPinLaw", name := "expected", desc := "(JJ)Z" } : Jvm.MethodName) method_3_code (6 : Nat) (Option.some Jvm.ClassFile.FieldType.boolean)]
set_option maxRecDepth 65536 in
theorem codes_eq : words1.filter isCode = codes1 := rfl
theorem w_codes : ∀ c ∈ words1.filter isCode, c.before args0 about1 = true := by
  rw [codes_eq]
  intro c hc
  simp only [codes1, List.mem_cons, List.not_mem_nil, or_false] at hc
  rcases hc with rfl | rfl | rfl | rfl | rfl | rfl | rfl | rfl | rfl | rfl | rfl | rfl | rfl
  · exact w_c0
  · exact w_c1
  · exact w_c2
  · exact w_c3
  · exact w_c4
  · exact w_c5
  · exact w_c6
  · exact w_c7
  · exact w_c8
  · exact w_c9
  · exact w_c10
  · exact w_c11
  · exact w_c12
set_option maxRecDepth 65536 in
theorem w_t1 : (words1.take 24).all (fun c => isCode c || c.before args0 about1) = true := by decide +kernel
set_option maxRecDepth 65536 in
theorem w_t2 : ((words1.drop 24).take 24).all (fun c => isCode c || c.before args0 about1) = true := by decide +kernel
set_option maxRecDepth 65536 in
theorem w_t3 : (((words1.drop 24).drop 24).take 24).all (fun c => isCode c || c.before args0 about1) = true := by decide +kernel
set_option maxRecDepth 65536 in
theorem w_t4 : ((((words1.drop 24).drop 24).drop 24).take 24).all (fun c => isCode c || c.before args0 about1) = true := by decide +kernel
set_option maxRecDepth 65536 in
theorem w_t5 : ((((words1.drop 24).drop 24).drop 24).drop 24).all (fun c => isCode c || c.before args0 about1) = true := by decide +kernel
theorem w_tables : (allAtoms (Jvm.Cond.code x code maxLocals ret :: tables_1)).before args0 about1 = true := by
  rw [allAtoms_all]
  show words1.all (fun c => c.before args0 about1) = true
  refine all_split ?_ w_codes
  rw [← List.take_append_drop 24 words1, List.all_append, w_t1, ← List.take_append_drop 24 (words1.drop 24), List.all_append, w_t2, ← List.take_append_drop 24 ((words1.drop 24).drop 24), List.all_append, w_t3, ← List.take_append_drop 24 (((words1.drop 24).drop 24).drop 24), List.all_append, w_t4, w_t5]
  rfl
set_option maxRecDepth 65536 in
theorem w_rest : rest_1_c.before args0 about1 = true := by decide +kernel
set_option maxRecDepth 65536 in
theorem w_case : (Jvm.Cond.and given_1 narrow_1).before args0 about1 = true := by decide +kernel
theorem w_applies : (headSpec (Jvm.Cond.code x code maxLocals ret :: tables_1) room_1).applies x e0.platform about1 = true :=
  (Spec.applies_iff w_frames).mpr ⟨w_running, w_runnable, w_alone, w_named, w_hears, w_ripe, w_room, w_tables⟩
theorem atStart : AtStart classFile x code maxLocals ret World_1 tables_1 room_1 Calls_1 rest_1 Pre_1 launch0 p0 e0 about1 theMethod args0 below0 :=
  ⟨lists_1, trivial, launch0.admits_env _ _ _, launch0.least_env, fairChoices_fair.cas, fairChoices_fair.clock, w_frames, w_args, w_heap, w_applies, trivial, w_rest, w_case⟩
end start1
theorem witness_1 : WitnessClaimed_1 := ⟨start1.p0, start1.e0, start1.about1, start1.theMethod, start1.args0, start1.below0, start1.atStart⟩
end Jvm.Pilot.@@N@@
