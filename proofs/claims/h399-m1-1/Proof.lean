import JvmDerived
import JvmDerived.Pilot.@@N@@Statement
import JvmDerived.Pilot.@@N@@Code
set_option linter.unusedVariables false
set_option linter.unusedSimpArgs false
namespace Jvm.Pilot.@@N@@
open Jvm Jvm.ClassFile Sem Op Lib Jvm.Free Jvm.Stand Jvm.LawKit Jvm.RoadKit Bundle Jvm.Pilot.@@N@@.Jvm.D
/-! OWN KIT 1: the fresh part of the heap: a list of (address, what its cell is) -/
abbrev Hp : Type := List (Addr × (Cell → Prop))
def Own (Z : State) (h : Heap) (M : Hp) : Prop := Ext Z.heap h ∧ (∀ (i : Nat) x, M[i]? = some x → Z.heap.size ≤ x.1 ∧ ∃ c : Cell, h[x.1]? = some c ∧ x.2 c) ∧ ∀ (i j : Nat) x y, M[i]? = some x → M[j]? = some y → x.1 = y.1 → i = j
theorem Own.ch {Z : State} {h h' : Heap} {M : Hp} {i : Nat} {a : Addr} {P P' : Cell → Prop} (O : Own Z h M) (hi : M[i]? = some (a, P)) (hs : h.size ≤ h'.size) (hk : ∀ (x : Addr) (c : Cell), h[x]? = some c → x ≠ a → h'[x]? = some c) (hc : ∃ c : Cell, h'[a]? = some c ∧ P' c) : Own Z h' (M.set i (a, P')) := by
  obtain ⟨o1, o2, o3⟩ := O
  have hil : i < M.length := (List.getElem?_eq_some_iff.mp hi).1
  have key : ∀ (j : Nat) x, (M.set i (a, P'))[j]? = some x → (j = i ∧ x = (a, P')) ∨ (j ≠ i ∧ M[j]? = some x) := by
    intro j x hx
    by_cases e : j = i
    · subst e
      rw [List.getElem?_set_self hil] at hx
      exact Or.inl ⟨rfl, (Option.some.inj hx).symm⟩
    · rw [List.getElem?_set_ne (Ne.symm e)] at hx
      exact Or.inr ⟨e, hx⟩
  refine ⟨⟨Nat.le_trans o1.1 hs, fun x c hx => hk x c (o1.2 x c hx) ?_⟩, fun j x hx => ?_, fun j j' x y hx hy e => ?_⟩
  · have h1 := (Array.getElem?_eq_some_iff.mp hx).1
    have h2 := (o2 i _ hi).1
    exact Nat.ne_of_lt (Nat.lt_of_lt_of_le h1 h2)
  · rcases key j x hx with ⟨rfl, rfl⟩ | ⟨ne, hx'⟩
    · exact ⟨(o2 j _ hi).1, hc⟩
    · obtain ⟨q1, c, q2, q3⟩ := o2 j x hx'
      exact ⟨q1, c, hk _ _ q2 (fun e => ne (o3 j i _ _ hx' hi e)), q3⟩
  · rcases key j x hx with ⟨rfl, rfl⟩ | ⟨ne, hx'⟩ <;> rcases key j' y hy with ⟨rfl, rfl⟩ | ⟨ne', hy'⟩
    · rfl
    · exact o3 _ _ _ _ hi hy' e
    · exact o3 _ _ _ _ hx' hi e
    · exact o3 _ _ _ _ hx' hy' e
theorem Own.upd {Z : State} {h h' : Heap} {M : Hp} {i : Nat} {a : Addr} {P P' : Cell → Prop} {sl : Nat} {v : Value} (O : Own Z h M) (hi : M[i]? = some (a, P)) (W : Wr h h' a sl v) (q : ∀ c : Cell, h[a]? = some c → P c → P' (c.setSlot sl v)) : Own Z h' (M.set i (a, P')) := by
  refine O.ch hi (Nat.le_of_eq W.size.symm) (fun x c hx ne => ?_) ?_
  · obtain ⟨c', e1, -, -, -, e5, -⟩ := wr_at W hx
    rw [e1, e5 ne]
  · obtain ⟨-, c, h1, h2⟩ := O.2.1 i _ hi
    obtain ⟨c', e1, -, -, -, -, -, e7⟩ := wr_at W h1
    exact ⟨c', e1, by rw [(e7 rfl).1]; exact q c h1 h2⟩
theorem Own.new {Z : State} {h h' : Heap} {M : Hp} {P : Cell → Prop} {c : Cell} (O : Own Z h M) (E : Ext h h') (hc : h'[h.size]? = some c) (q : P c) : Own Z h' ((h.size, P) :: M) := by
  obtain ⟨o1, o2, o3⟩ := O
  have lt : ∀ (j : Nat) x, M[j]? = some x → x.1 < h.size := fun j x hx => by
    obtain ⟨-, c, h1, -⟩ := o2 j x hx
    exact (Array.getElem?_eq_some_iff.mp h1).1
  refine ⟨⟨Nat.le_trans o1.1 E.1, fun x c hx => E.2 _ _ (o1.2 x c hx)⟩, fun j x hx => ?_, fun j j' x y hx hy e => ?_⟩
  · cases j with
    | zero => cases hx; exact ⟨o1.1, c, hc, q⟩
    | succ j => obtain ⟨q1, c, q2, q3⟩ := o2 j x hx; exact ⟨q1, c, E.2 _ _ q2, q3⟩
  · cases j <;> cases j'
    · rfl
    · cases hx; exact absurd e (Nat.ne_of_gt (lt _ _ hy))
    · cases hy; exact absurd e (Nat.ne_of_lt (lt _ _ hx))
    · exact congrArg _ (o3 _ _ _ _ hx hy e)
theorem Own.perm {Z : State} {h : Heap} {M M' : Hp} (O : Own Z h M) (p : M.Perm M') : Own Z h M' := by
  obtain ⟨o1, o2, o3⟩ := O
  have nd : (M.map Prod.fst).Nodup := by
    rw [List.nodup_iff_pairwise_ne, List.pairwise_iff_getElem]
    intro i j hi hj lt e
    simp only [List.length_map] at hi hj
    simp only [List.getElem_map] at e
    exact absurd (o3 i j _ _ (List.getElem?_eq_getElem hi) (List.getElem?_eq_getElem hj) e) (Nat.ne_of_lt lt)
  have nd' : (M'.map Prod.fst).Nodup := (p.map _).nodup_iff.mp nd
  refine ⟨o1, fun i x hx => ?_, fun i j x y hx hy e => ?_⟩
  · obtain ⟨j, hj⟩ := List.mem_iff_getElem?.mp (p.mem_iff.mpr (List.mem_of_getElem? hx))
    exact o2 j x hj
  · rw [List.nodup_iff_pairwise_ne, List.pairwise_iff_getElem] at nd'
    obtain ⟨hi, rfl⟩ := List.getElem?_eq_some_iff.mp hx
    obtain ⟨hj, rfl⟩ := List.getElem?_eq_some_iff.mp hy
    rcases Nat.lt_trichotomy i j with lt | rfl | lt
    · exact (nd' i j (by simpa using hi) (by simpa using hj) lt (by simpa using e)).elim
    · rfl
    · exact (nd' j i (by simpa using hj) (by simpa using hi) lt (by simpa using e.symm)).elim
theorem Own.ne {Z : State} {h : Heap} {M : Hp} {i j : Nat} {a b : Addr} {P P' : Cell → Prop} (O : Own Z h M) (hi : M[i]? = some (a, P)) (hj : M[j]? = some (b, P')) (ne : i ≠ j) : a ≠ b := fun e => ne (O.2.2 i j _ _ hi hj e)
/-! what a cell is: an object of the class C with these fields; an array of ints (bytes, booleans ..), an array of longs -/
abbrev Fd : Type := String × String × String × Value
def Apart (Z : State) (fs : List Fd) : Prop := ∀ (i j : Nat) f g, fs[i]? = some f → fs[j]? = some g → Jvm.RoadKit.slotOf Z f.1 f.2.1 f.2.2.1 = Jvm.RoadKit.slotOf Z g.1 g.2.1 g.2.2.1 → i = j
def Obj (Z : State) (C : String) (fs : List Fd) (c : Cell) : Prop := (∀ (h : Heap) (a : Addr), h[a]? = some c → Exa Z h a C ∧ ∀ (i : Nat) f, fs[i]? = some f → Fld Z h a f.1 f.2.1 f.2.2.1 f.2.2.2) ∧ Apart Z fs
def ArI (Z : State) (ty : FieldType) (vs : List Int32) (c : Cell) : Prop := Z.isArrayOf c ty ∧ c.vm ≠ .unknown ∧ c.slots = (vs.map Value.int).toArray ∧ vs.length < 2 ^ 31 ∧ ∀ x ∈ vs, fits ty (.int x) = true
def ArL (Z : State) (vs : List Int64) (c : Cell) : Prop := Z.isArrayOf c .long ∧ c.vm ≠ .unknown ∧ c.slots = (vs.map Value.long).toArray ∧ vs.length < 2 ^ 31
theorem exa_at_cell {Z : State} {h h' : Heap} {a a' : Addr} {C : String} {c : Cell} (E : Exa Z h a C) (hc : h[a]? = some c) (hc' : h'[a']? = some c) : Exa Z h' a' C := by
  obtain ⟨c1, k, h1, r⟩ := E
  cases h1.symm.trans hc
  exact ⟨_, k, hc', r⟩
theorem fld_at_cell {Z : State} {h h' : Heap} {a a' : Addr} {C n d : String} {v : Value} {c : Cell} (E : Fld Z h a C n d v) (hc : h[a]? = some c) (hc' : h'[a']? = some c) : Fld Z h' a' C n d v := by
  obtain ⟨c1, cf, k, i, f, h1, r⟩ := E
  cases h1.symm.trans hc
  exact ⟨_, cf, k, i, f, hc', r⟩
theorem Obj.put {Z : State} {C O n d : String} {fs : List Fd} {c : Cell} {j : Nat} {v w : Value} (B : Obj Z C fs c) (hj : fs[j]? = some (O, n, d, w)) {h h' : Heap} {a : Addr} (hc : h[a]? = some c) (W : Wr h h' a (Jvm.RoadKit.slotOf Z O n d) v) : Obj Z C (fs.set j (O, n, d, v)) (c.setSlot (Jvm.RoadKit.slotOf Z O n d) v) := by
  obtain ⟨b1, b2⟩ := B
  have hl : j < fs.length := (List.getElem?_eq_some_iff.mp hj).1
  have key : ∀ (i : Nat) x, (fs.set j (O, n, d, v))[i]? = some x → (i = j ∧ x = (O, n, d, v)) ∨ (i ≠ j ∧ fs[i]? = some x) := by
    intro i x hx
    by_cases e : i = j
    · subst e; rw [List.getElem?_set_self hl] at hx; exact Or.inl ⟨rfl, (Option.some.inj hx).symm⟩
    · rw [List.getElem?_set_ne (Ne.symm e)] at hx; exact Or.inr ⟨e, hx⟩
  have hnew : h'[a]? = some (c.setSlot (Jvm.RoadKit.slotOf Z O n d) v) := by
    obtain ⟨c', e1, -, -, -, -, -, e7⟩ := wr_at W hc
    rw [e1, (e7 rfl).1]
  refine ⟨fun h2 a2 h2c => ⟨exa_at_cell ((b1 h a hc).1.wr W) hnew h2c, fun i f hf => ?_⟩, fun i i' f g hf hg e => ?_⟩
  · rcases key i f hf with ⟨rfl, rfl⟩ | ⟨ne, hf'⟩
    · exact fld_at_cell (((b1 h a hc).2 i _ hj).same W) hnew h2c
    · exact fld_at_cell (((b1 h a hc).2 i _ hf').other W (Or.inr fun e => ne (b2 i j _ _ hf' hj e))) hnew h2c
  · rcases key i f hf with ⟨rfl, rfl⟩ | ⟨ne, hf'⟩ <;> rcases key i' g hg with ⟨rfl, rfl⟩ | ⟨ne', hg'⟩
    · rfl
    · exact b2 _ _ _ _ hj hg' e
    · exact b2 _ _ _ _ hf' hj e
    · exact b2 _ _ _ _ hf' hg' e
theorem ArI.arr {Z : State} {ty : FieldType} {vs : List Int32} {c : Cell} {h : Heap} {a : Addr} (B : ArI Z ty vs c) (hc : h[a]? = some c) : Arr Z h a c ty := ⟨hc, B.1, B.2.1⟩
theorem ArL.arr {Z : State} {vs : List Int64} {c : Cell} {h : Heap} {a : Addr} (B : ArL Z vs c) (hc : h[a]? = some c) : Arr Z h a c .long := ⟨hc, B.1, B.2.1⟩
theorem ArI.size {Z : State} {ty : FieldType} {vs : List Int32} {c : Cell} (B : ArI Z ty vs c) : c.slots.size = vs.length := by rw [B.2.2.1]; simp
theorem ArL.size {Z : State} {vs : List Int64} {c : Cell} (B : ArL Z vs c) : c.slots.size = vs.length := by rw [B.2.2.1]; simp
theorem ArI.put {Z : State} {ty : FieldType} {vs : List Int32} {c : Cell} (B : ArI Z ty vs c) (j : Nat) {x : Int32} (hx : fits ty (.int x) = true) : ArI Z ty (vs.set j x) (c.setSlot j (.int x)) := by
  refine ⟨B.1, B.2.1, ?_, by simpa using B.2.2.2.1, fun y hy => ?_⟩
  · show c.slots.setIfInBounds j (.int x) = _
    rw [B.2.2.1]; apply Array.ext'; simp [List.map_set]
  · rcases List.mem_or_eq_of_mem_set hy with h | rfl
    · exact B.2.2.2.2 y h
    · exact hx
theorem ArL.put {Z : State} {vs : List Int64} {c : Cell} (B : ArL Z vs c) (j : Nat) {x : Int64} : ArL Z (vs.set j x) (c.setSlot j (.long x)) := by
  refine ⟨B.1, B.2.1, ?_, by simpa using B.2.2.2⟩
  show c.slots.setIfInBounds j (.long x) = _
  rw [B.2.2.1]; apply Array.ext'; simp [List.map_set]
/-! OWN KIT 2: where a run stands, and how it ends -/
abbrev Cx : Type := Program × Launch × Env × Room × State × MethodId × Array Value × List Frame × Method × Code × (Option Value → Hp → Prop)
def Wk (Z : State) : Cx → State → Nat → Nat → Hp → Prop
  | (p, l, e, R, s, m, args, below, meth, c, _), T, cn, sn, M => ∃ locs, Stand p l e R s m args below meth c T locs cn sn ∧ Fr Z.heap.size locs ∧ Own Z T.heap M
def Ends (Z : State) : Cx → State → Nat → Array Slot → List Value → Prop
  | (p, l, e, R, s, m, args, below, meth, c, Q), T, pc, Ls, st => ∃ t o, Steps p.tables e below (T.setTop (mkF m pc Ls st)) t ∧ t.status = .running ∧ Ended t below o ∧ ∃ v L, o = .returned v ∧ (Fr Z.heap.size L ∧ ∃ M, Q v M ∧ Own Z t.heap M) ∧ FrameEnd s o t L R.cells R.slots
/-- from this frame, over such a heap, the run ends as Q says -/
def Go (Z : State) (k : Cx) (cn sn : Nat) (M : Hp) (pc : Nat) (Ls : Array Slot) (st : List Value) : Prop := ∀ T, Wk Z k T cn sn M → Ends Z k T pc Ls st
def Tb (Z : State) : Prop := ∃ a0, ∀ d ∈ tables_1, d.before a0 Z = true
def Ok (Z : State) (k : Cx) (R : Room) (Q : Option Value → Hp → Prop) (y : MethodName) (b : ByteArray) (ml : Nat) (rt : Option FieldType) : Prop :=
  match k with
  | (p, l, e, R', s, m, args, below, meth, c, Q') => p.tables.exec = Jvm.exec ∧ Z.Warmed39 s.vm ∧ c.code = b ∧ c.maxLocals = ml ∧ s.vm.findClass y.cls = some m.cls ∧ meth.name = y.name ∧ meth.sig.returnType = rt ∧ meth.locks = false ∧ Tb Z ∧ R' = R ∧ Q' = Q
theorem Ok.tb {Z : State} {k : Cx} {R : Room} {Q : Option Value → Hp → Prop} {y : MethodName} {b : ByteArray} {ml : Nat} {rt : Option FieldType} (H : Ok Z k R Q y b ml rt) : Tb Z := by
  obtain ⟨p, l, e, R', s, m, args, below, meth, c, Q'⟩ := k
  exact H.2.2.2.2.2.2.2.2.1
section Kit
variable {ty : FieldType} {Z : State} {k : Cx} {R : Room} {Q : Option Value → Hp → Prop} {y : MethodName} {b : ByteArray} {ml : Nat} {rt : Option FieldType} {cn sn : Nat} {M : Hp} {pc pc' : Nat} {Ls : Array Slot} {st : List Value}
theorem mem {i : Nat} {d : Jvm.Cond} (h : tables_1[i]? = some d) : d ∈ tables_1 := List.mem_of_getElem? h
theorem Go.more {cn' sn' : Nat} (hc : cn ≤ cn') (hs : sn ≤ sn') (g : Go Z k cn' sn' M pc Ls st) : Go Z k cn sn M pc Ls st := by
  obtain ⟨p, l, e, R, s, m, args, below, meth, c, Q⟩ := k
  intro T w
  obtain ⟨locs, X, F, O⟩ := w
  exact g T ⟨locs, X.more hc hs, F, O⟩
theorem Go.perm {M' : Hp} (p : M.Perm M') (g : Go Z k cn sn M' pc Ls st) : Go Z k cn sn M pc Ls st := by
  obtain ⟨p', l, e, R, s, m, args, below, meth, c, Q⟩ := k
  intro T w
  obtain ⟨locs, X, F, O⟩ := w
  exact g T ⟨locs, X, F, O.perm p⟩
theorem Go.fact {φ : Prop} (f : ∀ h, Own Z h M → φ) (g : φ → Go Z k cn sn M pc Ls st) : Go Z k cn sn M pc Ls st := by
  obtain ⟨p', l, e, R, s, m, args, below, meth, c, Q⟩ := k
  intro T w
  have w' := w
  obtain ⟨locs, X, F, O⟩ := w
  exact g (f _ O) T w'
theorem Go.cast {pc2 : Nat} {Ls2 : Array Slot} {st2 : List Value} {M2 : Hp} (h1 : pc = pc2) (h2 : Ls = Ls2) (h3 : st = st2) (h4 : M = M2) (g : Go Z k cn sn M2 pc2 Ls2 st2) : Go Z k cn sn M pc Ls st := by
  subst h1 h2 h3 h4; exact g
theorem s_iloadn (H : Ok Z k R Q y b ml rt) {i : Fin 4} {z : Int32} (hd : decode b pc = .ok (.iload_n i, 1)) (hl : Ls[i.val]? = some (.val (.int z))) (hp : pc + 1 = pc') (g : Go Z k cn sn M pc' Ls (.int z :: st)) : Go Z k cn sn M pc Ls (st) := by
  obtain ⟨p, l, e, R', s, m, args, below, meth, c, Q'⟩ := k
  obtain ⟨hx, hZ, hby, -⟩ := H
  subst hp
  intro T w
  have w' := w
  obtain ⟨locs, X, F, O⟩ := w
  obtain ⟨t, o, hs, r⟩ := g T w'
  exact ⟨t, o, XS.iloadN X.here hx rfl (hb hby hd) hl hs, r⟩
theorem s_iload (H : Ok Z k R Q y b ml rt) {i : Nat} {z : Int32} (hd : decode b pc = .ok (.iload i, 2)) (hl : Ls[i]? = some (.val (.int z))) (hp : pc + 2 = pc') (g : Go Z k cn sn M pc' Ls (.int z :: st)) : Go Z k cn sn M pc Ls (st) := by
  obtain ⟨p, l, e, R', s, m, args, below, meth, c, Q'⟩ := k
  obtain ⟨hx, hZ, hby, -⟩ := H
  subst hp
  intro T w
  have w' := w
  obtain ⟨locs, X, F, O⟩ := w
  obtain ⟨t, o, hs, r⟩ := g T w'
  exact ⟨t, o, XS.iload X.here hx rfl (hb hby hd) hl hs, r⟩
theorem s_istoren (H : Ok Z k R Q y b ml rt) {i : Fin 4} {x : Int32} {L' : Int32 → Array Slot} (hd : decode b pc = .ok (.istore_n i, 1)) (hl : ∀ z, storeLocals Ls i.val (.int z) = some (L' z)) (hp : pc + 1 = pc') (g : ∀ z, z = x → Go Z k cn sn M pc' (L' z) st) : Go Z k cn sn M pc Ls (.int x :: st) := by
  obtain ⟨p, l, e, R', s, m, args, below, meth, c, Q'⟩ := k
  obtain ⟨hx, hZ, hby, -⟩ := H
  subst hp
  intro T w
  have w' := w
  obtain ⟨locs, X, F, O⟩ := w
  obtain ⟨t, o, hs, r⟩ := g x rfl T w'
  exact ⟨t, o, XS.istoreN X.here hx rfl (hb hby hd) rfl (hl x) hs, r⟩
theorem s_istore (H : Ok Z k R Q y b ml rt) {i : Nat} {x : Int32} {L' : Int32 → Array Slot} (hd : decode b pc = .ok (.istore i, 2)) (hl : ∀ z, storeLocals Ls i (.int z) = some (L' z)) (hp : pc + 2 = pc') (g : ∀ z, z = x → Go Z k cn sn M pc' (L' z) st) : Go Z k cn sn M pc Ls (.int x :: st) := by
  obtain ⟨p, l, e, R', s, m, args, below, meth, c, Q'⟩ := k
  obtain ⟨hx, hZ, hby, -⟩ := H
  subst hp
  intro T w
  have w' := w
  obtain ⟨locs, X, F, O⟩ := w
  obtain ⟨t, o, hs, r⟩ := g x rfl T w'
  exact ⟨t, o, XS.istore X.here hx rfl (hb hby hd) rfl (hl x) hs, r⟩
theorem s_lloadn (H : Ok Z k R Q y b ml rt) {i : Fin 4} {z : Int64} (hd : decode b pc = .ok (.lload_n i, 1)) (hl : Ls[i.val]? = some (.val (.long z))) (hp : pc + 1 = pc') (g : Go Z k cn sn M pc' Ls (.long z :: st)) : Go Z k cn sn M pc Ls (st) := by
  obtain ⟨p, l, e, R', s, m, args, below, meth, c, Q'⟩ := k
  obtain ⟨hx, hZ, hby, -⟩ := H
  subst hp
  intro T w
  have w' := w
  obtain ⟨locs, X, F, O⟩ := w
  obtain ⟨t, o, hs, r⟩ := g T w'
  exact ⟨t, o, XS.lloadN X.here hx rfl (hb hby hd) hl hs, r⟩
theorem s_lload (H : Ok Z k R Q y b ml rt) {i : Nat} {z : Int64} (hd : decode b pc = .ok (.lload i, 2)) (hl : Ls[i]? = some (.val (.long z))) (hp : pc + 2 = pc') (g : Go Z k cn sn M pc' Ls (.long z :: st)) : Go Z k cn sn M pc Ls (st) := by
  obtain ⟨p, l, e, R', s, m, args, below, meth, c, Q'⟩ := k
  obtain ⟨hx, hZ, hby, -⟩ := H
  subst hp
  intro T w
  have w' := w
  obtain ⟨locs, X, F, O⟩ := w
  obtain ⟨t, o, hs, r⟩ := g T w'
  exact ⟨t, o, XS.lload X.here hx rfl (hb hby hd) hl hs, r⟩
theorem s_lstoren (H : Ok Z k R Q y b ml rt) {i : Fin 4} {x : Int64} {L' : Int64 → Array Slot} (hd : decode b pc = .ok (.lstore_n i, 1)) (hl : ∀ z, storeLocals Ls i.val (.long z) = some (L' z)) (hp : pc + 1 = pc') (g : ∀ z, z = x → Go Z k cn sn M pc' (L' z) st) : Go Z k cn sn M pc Ls (.long x :: st) := by
  obtain ⟨p, l, e, R', s, m, args, below, meth, c, Q'⟩ := k
  obtain ⟨hx, hZ, hby, -⟩ := H
  subst hp
  intro T w
  have w' := w
  obtain ⟨locs, X, F, O⟩ := w
  obtain ⟨t, o, hs, r⟩ := g x rfl T w'
  exact ⟨t, o, XS.lstoreN X.here hx rfl (hb hby hd) rfl (hl x) hs, r⟩
theorem s_lstore (H : Ok Z k R Q y b ml rt) {i : Nat} {x : Int64} {L' : Int64 → Array Slot} (hd : decode b pc = .ok (.lstore i, 2)) (hl : ∀ z, storeLocals Ls i (.long z) = some (L' z)) (hp : pc + 2 = pc') (g : ∀ z, z = x → Go Z k cn sn M pc' (L' z) st) : Go Z k cn sn M pc Ls (.long x :: st) := by
  obtain ⟨p, l, e, R', s, m, args, below, meth, c, Q'⟩ := k
  obtain ⟨hx, hZ, hby, -⟩ := H
  subst hp
  intro T w
  have w' := w
  obtain ⟨locs, X, F, O⟩ := w
  obtain ⟨t, o, hs, r⟩ := g x rfl T w'
  exact ⟨t, o, XS.lstore X.here hx rfl (hb hby hd) rfl (hl x) hs, r⟩
theorem s_aloadn (H : Ok Z k R Q y b ml rt) {i : Fin 4} {v : Value} (hd : decode b pc = .ok (.aload_n i, 1)) (hl : Ls[i.val]? = some (.val v)) (hv : v.isRef = true) (hp : pc + 1 = pc') (g : Go Z k cn sn M pc' Ls (v :: st)) : Go Z k cn sn M pc Ls (st) := by
  obtain ⟨p, l, e, R', s, m, args, below, meth, c, Q'⟩ := k
  obtain ⟨hx, hZ, hby, -⟩ := H
  subst hp
  intro T w
  have w' := w
  obtain ⟨locs, X, F, O⟩ := w
  obtain ⟨t, o, hs, r⟩ := g T w'
  exact ⟨t, o, XS.aloadN X.here hx rfl (hb hby hd) hl hv hs, r⟩
theorem s_aload (H : Ok Z k R Q y b ml rt) {i : Nat} {v : Value} (hd : decode b pc = .ok (.aload i, 2)) (hl : Ls[i]? = some (.val v)) (hv : v.isRef = true) (hp : pc + 2 = pc') (g : Go Z k cn sn M pc' Ls (v :: st)) : Go Z k cn sn M pc Ls (st) := by
  obtain ⟨p, l, e, R', s, m, args, below, meth, c, Q'⟩ := k
  obtain ⟨hx, hZ, hby, -⟩ := H
  subst hp
  intro T w
  have w' := w
  obtain ⟨locs, X, F, O⟩ := w
  obtain ⟨t, o, hs, r⟩ := g T w'
  exact ⟨t, o, XS.aload X.here hx rfl (hb hby hd) hl hv hs, r⟩
theorem s_astoren (H : Ok Z k R Q y b ml rt) {i : Fin 4} {v : Value} {L' : Array Slot} (hd : decode b pc = .ok (.astore_n i, 1)) (hv : v.isRef = true) (hl : storeLocals Ls i.val v = some L') (hp : pc + 1 = pc') (g : Go Z k cn sn M pc' L' (st)) : Go Z k cn sn M pc Ls (v :: st) := by
  obtain ⟨p, l, e, R', s, m, args, below, meth, c, Q'⟩ := k
  obtain ⟨hx, hZ, hby, -⟩ := H
  subst hp
  intro T w
  have w' := w
  obtain ⟨locs, X, F, O⟩ := w
  obtain ⟨t, o, hs, r⟩ := g T w'
  exact ⟨t, o, XS.astoreN X.here hx rfl (hb hby hd) rfl hv hl hs, r⟩
theorem s_astore (H : Ok Z k R Q y b ml rt) {i : Nat} {v : Value} {L' : Array Slot} (hd : decode b pc = .ok (.astore i, 2)) (hv : v.isRef = true) (hl : storeLocals Ls i v = some L') (hp : pc + 2 = pc') (g : Go Z k cn sn M pc' L' (st)) : Go Z k cn sn M pc Ls (v :: st) := by
  obtain ⟨p, l, e, R', s, m, args, below, meth, c, Q'⟩ := k
  obtain ⟨hx, hZ, hby, -⟩ := H
  subst hp
  intro T w
  have w' := w
  obtain ⟨locs, X, F, O⟩ := w
  obtain ⟨t, o, hs, r⟩ := g T w'
  exact ⟨t, o, XS.astore X.here hx rfl (hb hby hd) rfl hv hl hs, r⟩
theorem s_iconst (H : Ok Z k R Q y b ml rt) {i : Int} {z : Int32} (hd : decode b pc = .ok (.iconst i, 1)) (hz : z = Int32.ofInt i) (hp : pc + 1 = pc') (g : Go Z k cn sn M pc' Ls (.int z :: st)) : Go Z k cn sn M pc Ls (st) := by
  obtain ⟨p, l, e, R', s, m, args, below, meth, c, Q'⟩ := k
  obtain ⟨hx, hZ, hby, -⟩ := H
  subst hp
  intro T w
  have w' := w
  obtain ⟨locs, X, F, O⟩ := w
  obtain ⟨t, o, hs, r⟩ := g T w'
  exact ⟨t, o, XS.iconst X.here hx rfl (hb hby hd) (hz ▸ hs), r⟩
theorem s_bipush (H : Ok Z k R Q y b ml rt) {i : Int} {z : Int32} (hd : decode b pc = .ok (.bipush i, 2)) (hz : z = (Int8.ofInt i).toInt32) (hp : pc + 2 = pc') (g : Go Z k cn sn M pc' Ls (.int z :: st)) : Go Z k cn sn M pc Ls (st) := by
  obtain ⟨p, l, e, R', s, m, args, below, meth, c, Q'⟩ := k
  obtain ⟨hx, hZ, hby, -⟩ := H
  subst hp
  intro T w
  have w' := w
  obtain ⟨locs, X, F, O⟩ := w
  obtain ⟨t, o, hs, r⟩ := g T w'
  exact ⟨t, o, XS.bipush X.here hx rfl (hb hby hd) (hz ▸ hs), r⟩
theorem s_sipush (H : Ok Z k R Q y b ml rt) {i : Int} {z : Int32} (hd : decode b pc = .ok (.sipush i, 3)) (hz : z = (Int16.ofInt i).toInt32) (hp : pc + 3 = pc') (g : Go Z k cn sn M pc' Ls (.int z :: st)) : Go Z k cn sn M pc Ls (st) := by
  obtain ⟨p, l, e, R', s, m, args, below, meth, c, Q'⟩ := k
  obtain ⟨hx, hZ, hby, -⟩ := H
  subst hp
  intro T w
  have w' := w
  obtain ⟨locs, X, F, O⟩ := w
  obtain ⟨t, o, hs, r⟩ := g T w'
  exact ⟨t, o, XS.sipush X.here hx rfl (hb hby hd) (hz ▸ hs), r⟩
theorem s_lconst (H : Ok Z k R Q y b ml rt) {i : Fin 2} {z : Int64} (hd : decode b pc = .ok (.lconst i, 1)) (hz : z = Int64.ofNat i) (hp : pc + 1 = pc') (g : Go Z k cn sn M pc' Ls (.long z :: st)) : Go Z k cn sn M pc Ls (st) := by
  obtain ⟨p, l, e, R', s, m, args, below, meth, c, Q'⟩ := k
  obtain ⟨hx, hZ, hby, -⟩ := H
  subst hp
  intro T w
  have w' := w
  obtain ⟨locs, X, F, O⟩ := w
  obtain ⟨t, o, hs, r⟩ := g T w'
  exact ⟨t, o, XS.lconst X.here hx rfl (hb hby hd) (hz ▸ hs), r⟩
theorem s_anull (H : Ok Z k R Q y b ml rt) (hd : decode b pc = .ok (.aconst_null, 1)) (hp : pc + 1 = pc') (g : Go Z k cn sn M pc' Ls (.null :: st)) : Go Z k cn sn M pc Ls (st) := by
  obtain ⟨p, l, e, R', s, m, args, below, meth, c, Q'⟩ := k
  obtain ⟨hx, hZ, hby, -⟩ := H
  subst hp
  intro T w
  have w' := w
  obtain ⟨locs, X, F, O⟩ := w
  obtain ⟨t, o, hs, r⟩ := g T w'
  exact ⟨t, o, XS.aconstNull X.here hx rfl (hb hby hd) hs, r⟩
theorem s_iadd (H : Ok Z k R Q y b ml rt) {x u : Int32} (hd : decode b pc = .ok (.iadd, 1)) (hp : pc + 1 = pc') (g : Go Z k cn sn M pc' Ls (.int (x + u) :: st)) : Go Z k cn sn M pc Ls (.int u :: .int x :: st) := by
  obtain ⟨p, l, e, R', s, m, args, below, meth, c, Q'⟩ := k
  obtain ⟨hx, hZ, hby, -⟩ := H
  subst hp
  intro T w
  have w' := w
  obtain ⟨locs, X, F, O⟩ := w
  obtain ⟨t, o, hs, r⟩ := g T w'
  exact ⟨t, o, XS.iadd X.here hx rfl (hb hby hd) rfl hs, r⟩
theorem s_isub (H : Ok Z k R Q y b ml rt) {x u : Int32} (hd : decode b pc = .ok (.isub, 1)) (hp : pc + 1 = pc') (g : Go Z k cn sn M pc' Ls (.int (x - u) :: st)) : Go Z k cn sn M pc Ls (.int u :: .int x :: st) := by
  obtain ⟨p, l, e, R', s, m, args, below, meth, c, Q'⟩ := k
  obtain ⟨hx, hZ, hby, -⟩ := H
  subst hp
  intro T w
  have w' := w
  obtain ⟨locs, X, F, O⟩ := w
  obtain ⟨t, o, hs, r⟩ := g T w'
  exact ⟨t, o, XS.isub X.here hx rfl (hb hby hd) rfl hs, r⟩
theorem s_imul (H : Ok Z k R Q y b ml rt) {x u : Int32} (hd : decode b pc = .ok (.imul, 1)) (hp : pc + 1 = pc') (g : Go Z k cn sn M pc' Ls (.int (x * u) :: st)) : Go Z k cn sn M pc Ls (.int u :: .int x :: st) := by
  obtain ⟨p, l, e, R', s, m, args, below, meth, c, Q'⟩ := k
  obtain ⟨hx, hZ, hby, -⟩ := H
  subst hp
  intro T w
  have w' := w
  obtain ⟨locs, X, F, O⟩ := w
  obtain ⟨t, o, hs, r⟩ := g T w'
  exact ⟨t, o, XS.imul X.here hx rfl (hb hby hd) rfl hs, r⟩
theorem s_iand (H : Ok Z k R Q y b ml rt) {x u : Int32} (hd : decode b pc = .ok (.iand, 1)) (hp : pc + 1 = pc') (g : Go Z k cn sn M pc' Ls (.int (x &&& u) :: st)) : Go Z k cn sn M pc Ls (.int u :: .int x :: st) := by
  obtain ⟨p, l, e, R', s, m, args, below, meth, c, Q'⟩ := k
  obtain ⟨hx, hZ, hby, -⟩ := H
  subst hp
  intro T w
  have w' := w
  obtain ⟨locs, X, F, O⟩ := w
  obtain ⟨t, o, hs, r⟩ := g T w'
  exact ⟨t, o, XS.iand X.here hx rfl (hb hby hd) rfl hs, r⟩
theorem s_ior (H : Ok Z k R Q y b ml rt) {x u : Int32} (hd : decode b pc = .ok (.ior, 1)) (hp : pc + 1 = pc') (g : Go Z k cn sn M pc' Ls (.int (x ||| u) :: st)) : Go Z k cn sn M pc Ls (.int u :: .int x :: st) := by
  obtain ⟨p, l, e, R', s, m, args, below, meth, c, Q'⟩ := k
  obtain ⟨hx, hZ, hby, -⟩ := H
  subst hp
  intro T w
  have w' := w
  obtain ⟨locs, X, F, O⟩ := w
  obtain ⟨t, o, hs, r⟩ := g T w'
  exact ⟨t, o, XS.ior X.here hx rfl (hb hby hd) rfl hs, r⟩
theorem s_ixor (H : Ok Z k R Q y b ml rt) {x u : Int32} (hd : decode b pc = .ok (.ixor, 1)) (hp : pc + 1 = pc') (g : Go Z k cn sn M pc' Ls (.int (x ^^^ u) :: st)) : Go Z k cn sn M pc Ls (.int u :: .int x :: st) := by
  obtain ⟨p, l, e, R', s, m, args, below, meth, c, Q'⟩ := k
  obtain ⟨hx, hZ, hby, -⟩ := H
  subst hp
  intro T w
  have w' := w
  obtain ⟨locs, X, F, O⟩ := w
  obtain ⟨t, o, hs, r⟩ := g T w'
  exact ⟨t, o, XS.ixor X.here hx rfl (hb hby hd) rfl hs, r⟩
theorem s_idiv (H : Ok Z k R Q y b ml rt) {x u : Int32} (hd : decode b pc = .ok (.idiv, 1)) (hu : u ≠ 0) (hp : pc + 1 = pc') (g : Go Z k cn sn M pc' Ls (.int (x / u) :: st)) : Go Z k cn sn M pc Ls (.int u :: .int x :: st) := by
  obtain ⟨p, l, e, R', s, m, args, below, meth, c, Q'⟩ := k
  obtain ⟨hx, hZ, hby, -⟩ := H
  subst hp
  intro T w
  have w' := w
  obtain ⟨locs, X, F, O⟩ := w
  obtain ⟨t, o, hs, r⟩ := g T w'
  exact ⟨t, o, XS.idiv X.here hx rfl (hb hby hd) rfl hu hs, r⟩
theorem s_ineg (H : Ok Z k R Q y b ml rt) {x : Int32} (hd : decode b pc = .ok (.ineg, 1)) (hp : pc + 1 = pc') (g : Go Z k cn sn M pc' Ls (.int (-x) :: st)) : Go Z k cn sn M pc Ls (.int x :: st) := by
  obtain ⟨p, l, e, R', s, m, args, below, meth, c, Q'⟩ := k
  obtain ⟨hx, hZ, hby, -⟩ := H
  subst hp
  intro T w
  have w' := w
  obtain ⟨locs, X, F, O⟩ := w
  obtain ⟨t, o, hs, r⟩ := g T w'
  exact ⟨t, o, XS.ineg X.here hx rfl (hb hby hd) rfl hs, r⟩
theorem s_ladd (H : Ok Z k R Q y b ml rt) {x u : Int64} (hd : decode b pc = .ok (.ladd, 1)) (hp : pc + 1 = pc') (g : Go Z k cn sn M pc' Ls (.long (x + u) :: st)) : Go Z k cn sn M pc Ls (.long u :: .long x :: st) := by
  obtain ⟨p, l, e, R', s, m, args, below, meth, c, Q'⟩ := k
  obtain ⟨hx, hZ, hby, -⟩ := H
  subst hp
  intro T w
  have w' := w
  obtain ⟨locs, X, F, O⟩ := w
  obtain ⟨t, o, hs, r⟩ := g T w'
  exact ⟨t, o, XS.ladd X.here hx rfl (hb hby hd) rfl hs, r⟩
theorem s_lsub (H : Ok Z k R Q y b ml rt) {x u : Int64} (hd : decode b pc = .ok (.lsub, 1)) (hp : pc + 1 = pc') (g : Go Z k cn sn M pc' Ls (.long (x - u) :: st)) : Go Z k cn sn M pc Ls (.long u :: .long x :: st) := by
  obtain ⟨p, l, e, R', s, m, args, below, meth, c, Q'⟩ := k
  obtain ⟨hx, hZ, hby, -⟩ := H
  subst hp
  intro T w
  have w' := w
  obtain ⟨locs, X, F, O⟩ := w
  obtain ⟨t, o, hs, r⟩ := g T w'
  exact ⟨t, o, XS.lsub X.here hx rfl (hb hby hd) rfl hs, r⟩
theorem s_lmul (H : Ok Z k R Q y b ml rt) {x u : Int64} (hd : decode b pc = .ok (.lmul, 1)) (hp : pc + 1 = pc') (g : Go Z k cn sn M pc' Ls (.long (x * u) :: st)) : Go Z k cn sn M pc Ls (.long u :: .long x :: st) := by
  obtain ⟨p, l, e, R', s, m, args, below, meth, c, Q'⟩ := k
  obtain ⟨hx, hZ, hby, -⟩ := H
  subst hp
  intro T w
  have w' := w
  obtain ⟨locs, X, F, O⟩ := w
  obtain ⟨t, o, hs, r⟩ := g T w'
  exact ⟨t, o, XS.lmul X.here hx rfl (hb hby hd) rfl hs, r⟩
theorem s_land (H : Ok Z k R Q y b ml rt) {x u : Int64} (hd : decode b pc = .ok (.land, 1)) (hp : pc + 1 = pc') (g : Go Z k cn sn M pc' Ls (.long (x &&& u) :: st)) : Go Z k cn sn M pc Ls (.long u :: .long x :: st) := by
  obtain ⟨p, l, e, R', s, m, args, below, meth, c, Q'⟩ := k
  obtain ⟨hx, hZ, hby, -⟩ := H
  subst hp
  intro T w
  have w' := w
  obtain ⟨locs, X, F, O⟩ := w
  obtain ⟨t, o, hs, r⟩ := g T w'
  exact ⟨t, o, XS.land X.here hx rfl (hb hby hd) rfl hs, r⟩
theorem s_lor (H : Ok Z k R Q y b ml rt) {x u : Int64} (hd : decode b pc = .ok (.lor, 1)) (hp : pc + 1 = pc') (g : Go Z k cn sn M pc' Ls (.long (x ||| u) :: st)) : Go Z k cn sn M pc Ls (.long u :: .long x :: st) := by
  obtain ⟨p, l, e, R', s, m, args, below, meth, c, Q'⟩ := k
  obtain ⟨hx, hZ, hby, -⟩ := H
  subst hp
  intro T w
  have w' := w
  obtain ⟨locs, X, F, O⟩ := w
  obtain ⟨t, o, hs, r⟩ := g T w'
  exact ⟨t, o, XS.lor X.here hx rfl (hb hby hd) rfl hs, r⟩
theorem s_lxor (H : Ok Z k R Q y b ml rt) {x u : Int64} (hd : decode b pc = .ok (.lxor, 1)) (hp : pc + 1 = pc') (g : Go Z k cn sn M pc' Ls (.long (x ^^^ u) :: st)) : Go Z k cn sn M pc Ls (.long u :: .long x :: st) := by
  obtain ⟨p, l, e, R', s, m, args, below, meth, c, Q'⟩ := k
  obtain ⟨hx, hZ, hby, -⟩ := H
  subst hp
  intro T w
  have w' := w
  obtain ⟨locs, X, F, O⟩ := w
  obtain ⟨t, o, hs, r⟩ := g T w'
  exact ⟨t, o, XS.lxor X.here hx rfl (hb hby hd) rfl hs, r⟩
theorem s_ldiv (H : Ok Z k R Q y b ml rt) {x u : Int64} (hd : decode b pc = .ok (.ldiv, 1)) (hu : u ≠ 0) (hp : pc + 1 = pc') (g : Go Z k cn sn M pc' Ls (.long (x / u) :: st)) : Go Z k cn sn M pc Ls (.long u :: .long x :: st) := by
  obtain ⟨p, l, e, R', s, m, args, below, meth, c, Q'⟩ := k
  obtain ⟨hx, hZ, hby, -⟩ := H
  subst hp
  intro T w
  have w' := w
  obtain ⟨locs, X, F, O⟩ := w
  obtain ⟨t, o, hs, r⟩ := g T w'
  exact ⟨t, o, XS.ldiv X.here hx rfl (hb hby hd) rfl hu hs, r⟩
theorem s_lneg (H : Ok Z k R Q y b ml rt) {x : Int64} (hd : decode b pc = .ok (.lneg, 1)) (hp : pc + 1 = pc') (g : Go Z k cn sn M pc' Ls (.long (-x) :: st)) : Go Z k cn sn M pc Ls (.long x :: st) := by
  obtain ⟨p, l, e, R', s, m, args, below, meth, c, Q'⟩ := k
  obtain ⟨hx, hZ, hby, -⟩ := H
  subst hp
  intro T w
  have w' := w
  obtain ⟨locs, X, F, O⟩ := w
  obtain ⟨t, o, hs, r⟩ := g T w'
  exact ⟨t, o, XS.lneg X.here hx rfl (hb hby hd) rfl hs, r⟩
theorem s_irem (H : Ok Z k R Q y b ml rt) {x u : Int32} (hd : decode b pc = .ok (.irem, 1)) (hu : u ≠ 0) (hp : pc + 1 = pc') (g : Go Z k cn sn M pc' Ls (.int (x % u) :: st)) : Go Z k cn sn M pc Ls (.int u :: .int x :: st) := by
  obtain ⟨p, l, e, R', s, m, args, below, meth, c, Q'⟩ := k
  obtain ⟨hx, hZ, hby, -⟩ := H
  subst hp
  intro T w
  have w' := w
  obtain ⟨locs, X, F, O⟩ := w
  obtain ⟨t, o, hs, r⟩ := g T w'
  exact ⟨t, o, iremM X hx rfl (hb hby hd) rfl hu hs, r⟩
theorem s_lrem (H : Ok Z k R Q y b ml rt) {x u : Int64} (hd : decode b pc = .ok (.lrem, 1)) (hu : u ≠ 0) (hp : pc + 1 = pc') (g : Go Z k cn sn M pc' Ls (.long (x % u) :: st)) : Go Z k cn sn M pc Ls (.long u :: .long x :: st) := by
  obtain ⟨p, l, e, R', s, m, args, below, meth, c, Q'⟩ := k
  obtain ⟨hx, hZ, hby, -⟩ := H
  subst hp
  intro T w
  have w' := w
  obtain ⟨locs, X, F, O⟩ := w
  obtain ⟨t, o, hs, r⟩ := g T w'
  exact ⟨t, o, XS.lrem X.here hx rfl (hb hby hd) rfl hu (lrem_mod x u ▸ hs), r⟩
theorem s_ishl (H : Ok Z k R Q y b ml rt) {x u : Int32} (hd : decode b pc = .ok (.ishl, 1)) (hp : pc + 1 = pc') (g : Go Z k cn sn M pc' Ls (.int (x <<< (u &&& 31)) :: st)) : Go Z k cn sn M pc Ls (.int u :: .int x :: st) := by
  obtain ⟨p, l, e, R', s, m, args, below, meth, c, Q'⟩ := k
  obtain ⟨hx, hZ, hby, -⟩ := H
  subst hp
  intro T w
  have w' := w
  obtain ⟨locs, X, F, O⟩ := w
  obtain ⟨t, o, hs, r⟩ := g T w'
  exact ⟨t, o, XS.ishl X.here hx rfl (hb hby hd) rfl hs, r⟩
theorem s_ishr (H : Ok Z k R Q y b ml rt) {x u : Int32} (hd : decode b pc = .ok (.ishr, 1)) (hp : pc + 1 = pc') (g : Go Z k cn sn M pc' Ls (.int (x >>> (u &&& 31)) :: st)) : Go Z k cn sn M pc Ls (.int u :: .int x :: st) := by
  obtain ⟨p, l, e, R', s, m, args, below, meth, c, Q'⟩ := k
  obtain ⟨hx, hZ, hby, -⟩ := H
  subst hp
  intro T w
  have w' := w
  obtain ⟨locs, X, F, O⟩ := w
  obtain ⟨t, o, hs, r⟩ := g T w'
  exact ⟨t, o, XS.ishr X.here hx rfl (hb hby hd) rfl hs, r⟩
theorem s_iushr (H : Ok Z k R Q y b ml rt) {x u : Int32} (hd : decode b pc = .ok (.iushr, 1)) (hp : pc + 1 = pc') (g : Go Z k cn sn M pc' Ls (.int ((x.toUInt32 >>> (u &&& 31).toUInt32).toInt32) :: st)) : Go Z k cn sn M pc Ls (.int u :: .int x :: st) := by
  obtain ⟨p, l, e, R', s, m, args, below, meth, c, Q'⟩ := k
  obtain ⟨hx, hZ, hby, -⟩ := H
  subst hp
  intro T w
  have w' := w
  obtain ⟨locs, X, F, O⟩ := w
  obtain ⟨t, o, hs, r⟩ := g T w'
  exact ⟨t, o, XS.iushr X.here hx rfl (hb hby hd) rfl hs, r⟩
theorem s_lshl (H : Ok Z k R Q y b ml rt) {x : Int64} {u : Int32} (hd : decode b pc = .ok (.lshl, 1)) (hp : pc + 1 = pc') (g : Go Z k cn sn M pc' Ls (.long (x <<< (u &&& 0x3f).toInt64) :: st)) : Go Z k cn sn M pc Ls (.int u :: .long x :: st) := by
  obtain ⟨p, l, e, R', s, m, args, below, meth, c, Q'⟩ := k
  obtain ⟨hx, hZ, hby, -⟩ := H
  subst hp
  intro T w
  have w' := w
  obtain ⟨locs, X, F, O⟩ := w
  obtain ⟨t, o, hs, r⟩ := g T w'
  exact ⟨t, o, XS.lshl X.here hx rfl (hb hby hd) rfl hs, r⟩
theorem s_lshr (H : Ok Z k R Q y b ml rt) {x : Int64} {u : Int32} (hd : decode b pc = .ok (.lshr, 1)) (hp : pc + 1 = pc') (g : Go Z k cn sn M pc' Ls (.long (x >>> (u &&& 0x3f).toInt64) :: st)) : Go Z k cn sn M pc Ls (.int u :: .long x :: st) := by
  obtain ⟨p, l, e, R', s, m, args, below, meth, c, Q'⟩ := k
  obtain ⟨hx, hZ, hby, -⟩ := H
  subst hp
  intro T w
  have w' := w
  obtain ⟨locs, X, F, O⟩ := w
  obtain ⟨t, o, hs, r⟩ := g T w'
  exact ⟨t, o, XS.lshr X.here hx rfl (hb hby hd) rfl hs, r⟩
theorem s_lushr (H : Ok Z k R Q y b ml rt) {x : Int64} {u : Int32} (hd : decode b pc = .ok (.lushr, 1)) (hp : pc + 1 = pc') (g : Go Z k cn sn M pc' Ls (.long ((x.toUInt64 >>> (u &&& 0x3f).toInt64.toUInt64).toInt64) :: st)) : Go Z k cn sn M pc Ls (.int u :: .long x :: st) := by
  obtain ⟨p, l, e, R', s, m, args, below, meth, c, Q'⟩ := k
  obtain ⟨hx, hZ, hby, -⟩ := H
  subst hp
  intro T w
  have w' := w
  obtain ⟨locs, X, F, O⟩ := w
  obtain ⟨t, o, hs, r⟩ := g T w'
  exact ⟨t, o, XS.lushr X.here hx rfl (hb hby hd) rfl hs, r⟩
theorem s_i2l (H : Ok Z k R Q y b ml rt) {x : Int32} (hd : decode b pc = .ok (.i2l, 1)) (hp : pc + 1 = pc') (g : Go Z k cn sn M pc' Ls (.long (x.toInt64) :: st)) : Go Z k cn sn M pc Ls (.int x :: st) := by
  obtain ⟨p, l, e, R', s, m, args, below, meth, c, Q'⟩ := k
  obtain ⟨hx, hZ, hby, -⟩ := H
  subst hp
  intro T w
  have w' := w
  obtain ⟨locs, X, F, O⟩ := w
  obtain ⟨t, o, hs, r⟩ := g T w'
  exact ⟨t, o, XS.i2l X.here hx rfl (hb hby hd) rfl hs, r⟩
theorem s_l2i (H : Ok Z k R Q y b ml rt) {x : Int64} (hd : decode b pc = .ok (.l2i, 1)) (hp : pc + 1 = pc') (g : Go Z k cn sn M pc' Ls (.int (x.toInt32) :: st)) : Go Z k cn sn M pc Ls (.long x :: st) := by
  obtain ⟨p, l, e, R', s, m, args, below, meth, c, Q'⟩ := k
  obtain ⟨hx, hZ, hby, -⟩ := H
  subst hp
  intro T w
  have w' := w
  obtain ⟨locs, X, F, O⟩ := w
  obtain ⟨t, o, hs, r⟩ := g T w'
  exact ⟨t, o, XS.l2i X.here hx rfl (hb hby hd) rfl hs, r⟩
theorem s_i2b (H : Ok Z k R Q y b ml rt) {x : Int32} (hd : decode b pc = .ok (.i2b, 1)) (hp : pc + 1 = pc') (g : Go Z k cn sn M pc' Ls (.int (x.toInt8.toInt32) :: st)) : Go Z k cn sn M pc Ls (.int x :: st) := by
  obtain ⟨p, l, e, R', s, m, args, below, meth, c, Q'⟩ := k
  obtain ⟨hx, hZ, hby, -⟩ := H
  subst hp
  intro T w
  have w' := w
  obtain ⟨locs, X, F, O⟩ := w
  obtain ⟨t, o, hs, r⟩ := g T w'
  exact ⟨t, o, XS.i2b X.here hx rfl (hb hby hd) rfl hs, r⟩
theorem s_i2c (H : Ok Z k R Q y b ml rt) {x : Int32} (hd : decode b pc = .ok (.i2c, 1)) (hp : pc + 1 = pc') (g : Go Z k cn sn M pc' Ls (.int (x.toUInt32.toUInt16.toUInt32.toInt32) :: st)) : Go Z k cn sn M pc Ls (.int x :: st) := by
  obtain ⟨p, l, e, R', s, m, args, below, meth, c, Q'⟩ := k
  obtain ⟨hx, hZ, hby, -⟩ := H
  subst hp
  intro T w
  have w' := w
  obtain ⟨locs, X, F, O⟩ := w
  obtain ⟨t, o, hs, r⟩ := g T w'
  exact ⟨t, o, XS.i2c X.here hx rfl (hb hby hd) rfl hs, r⟩
theorem s_i2s (H : Ok Z k R Q y b ml rt) {x : Int32} (hd : decode b pc = .ok (.i2s, 1)) (hp : pc + 1 = pc') (g : Go Z k cn sn M pc' Ls (.int (x.toInt16.toInt32) :: st)) : Go Z k cn sn M pc Ls (.int x :: st) := by
  obtain ⟨p, l, e, R', s, m, args, below, meth, c, Q'⟩ := k
  obtain ⟨hx, hZ, hby, -⟩ := H
  subst hp
  intro T w
  have w' := w
  obtain ⟨locs, X, F, O⟩ := w
  obtain ⟨t, o, hs, r⟩ := g T w'
  exact ⟨t, o, XS.i2s X.here hx rfl (hb hby hd) rfl hs, r⟩
theorem s_lcmp (H : Ok Z k R Q y b ml rt) {x u : Int64} (hd : decode b pc = .ok (.lcmp, 1)) (hp : pc + 1 = pc') (g : Go Z k cn sn M pc' Ls (.int (lcmpW x u) :: st)) : Go Z k cn sn M pc Ls (.long u :: .long x :: st) := by
  obtain ⟨p, l, e, R', s, m, args, below, meth, c, Q'⟩ := k
  obtain ⟨hx, hZ, hby, -⟩ := H
  subst hp
  intro T w
  have w' := w
  obtain ⟨locs, X, F, O⟩ := w
  obtain ⟨t, o, hs, r⟩ := g T w'
  exact ⟨t, o, XS.lcmp X.here hx rfl (hb hby hd) rfl hs, r⟩
theorem s_dup (H : Ok Z k R Q y b ml rt) {v : Value} (hd : decode b pc = .ok (.dup, 1)) (hc : v.category = 1) (hp : pc + 1 = pc') (g : Go Z k cn sn M pc' Ls (v :: v :: st)) : Go Z k cn sn M pc Ls (v :: st) := by
  obtain ⟨p, l, e, R', s, m, args, below, meth, c, Q'⟩ := k
  obtain ⟨hx, hZ, hby, -⟩ := H
  subst hp
  intro T w
  have w' := w
  obtain ⟨locs, X, F, O⟩ := w
  obtain ⟨t, o, hs, r⟩ := g T w'
  exact ⟨t, o, XS.dup X.here hx rfl (hb hby hd) rfl hc hs, r⟩
theorem s_dupx1 (H : Ok Z k R Q y b ml rt) {v v' : Value} (hd : decode b pc = .ok (.dup_x1, 1)) (hc : v.category = 1) (hc' : v'.category = 1) (hp : pc + 1 = pc') (g : Go Z k cn sn M pc' Ls (v :: v' :: v :: st)) : Go Z k cn sn M pc Ls (v :: v' :: st) := by
  obtain ⟨p, l, e, R', s, m, args, below, meth, c, Q'⟩ := k
  obtain ⟨hx, hZ, hby, -⟩ := H
  subst hp
  intro T w
  have w' := w
  obtain ⟨locs, X, F, O⟩ := w
  obtain ⟨t, o, hs, r⟩ := g T w'
  exact ⟨t, o, XS.dupX1 X.here hx rfl (hb hby hd) rfl hc hc' hs, r⟩
theorem s_dup2 (H : Ok Z k R Q y b ml rt) {v v' : Value} (hd : decode b pc = .ok (.dup2, 1)) (hc : v.category = 1) (hc' : v'.category = 1) (hp : pc + 1 = pc') (g : Go Z k cn sn M pc' Ls (v :: v' :: v :: v' :: st)) : Go Z k cn sn M pc Ls (v :: v' :: st) := by
  obtain ⟨p, l, e, R', s, m, args, below, meth, c, Q'⟩ := k
  obtain ⟨hx, hZ, hby, -⟩ := H
  subst hp
  intro T w
  have w' := w
  obtain ⟨locs, X, F, O⟩ := w
  obtain ⟨t, o, hs, r⟩ := g T w'
  exact ⟨t, o, XT.dup2 X.here hx rfl (hb hby hd) rfl hc hc' hs, r⟩
theorem s_dup2l (H : Ok Z k R Q y b ml rt) {x : Int64} (hd : decode b pc = .ok (.dup2, 1)) (hp : pc + 1 = pc') (g : Go Z k cn sn M pc' Ls (.long x :: .long x :: st)) : Go Z k cn sn M pc Ls (.long x :: st) := by
  obtain ⟨p, l, e, R', s, m, args, below, meth, c, Q'⟩ := k
  obtain ⟨hx, hZ, hby, -⟩ := H
  subst hp
  intro T w
  have w' := w
  obtain ⟨locs, X, F, O⟩ := w
  obtain ⟨t, o, hs, r⟩ := g T w'
  exact ⟨t, o, XT.dup2L X.here hx rfl (hb hby hd) rfl hs, r⟩
theorem s_pop (H : Ok Z k R Q y b ml rt) {v : Value} (hd : decode b pc = .ok (.pop, 1)) (hc : v.category = 1) (hp : pc + 1 = pc') (g : Go Z k cn sn M pc' Ls (st)) : Go Z k cn sn M pc Ls (v :: st) := by
  obtain ⟨p, l, e, R', s, m, args, below, meth, c, Q'⟩ := k
  obtain ⟨hx, hZ, hby, -⟩ := H
  subst hp
  intro T w
  have w' := w
  obtain ⟨locs, X, F, O⟩ := w
  obtain ⟨t, o, hs, r⟩ := g T w'
  exact ⟨t, o, XS.pop X.here hx rfl (hb hby hd) rfl hc hs, r⟩
theorem s_iinc (H : Ok Z k R Q y b ml rt) {i : Nat} {cst : Int} {x u : Int32} {L' : Int32 → Array Slot} (hd : decode b pc = .ok (.iinc i cst, 3)) (hl0 : Ls[i]? = some (.val (.int x))) (hu : u = Int32.ofInt cst) (hl : ∀ z, storeLocals Ls i (.int z) = some (L' z)) (hp : pc + 3 = pc') (g : ∀ z, z = x + u → Go Z k cn sn M pc' (L' z) st) : Go Z k cn sn M pc Ls st := by
  obtain ⟨p, l, e, R', s, m, args, below, meth, c, Q'⟩ := k
  obtain ⟨hx, hZ, hby, -⟩ := H
  subst hp hu
  intro T w
  have w' := w
  obtain ⟨locs, X, F, O⟩ := w
  obtain ⟨t, o, hs, r⟩ := g _ rfl T w'
  exact ⟨t, o, XS.iinc X.here hx rfl (hb hby hd) hl0 (hl _) hs, r⟩
theorem s_goto (H : Ok Z k R Q y b ml rt) {o : Int} (hd : decode b pc = .ok (.goto o, 3)) (ho : (pc : Int) + o = pc') (g : Go Z k cn sn M pc' Ls st) : Go Z k cn sn M pc Ls st := by
  obtain ⟨p, l, e, R', s, m, args, below, meth, c, Q'⟩ := k
  obtain ⟨hx, hZ, hby, -⟩ := H
  intro T w
  have w' := w
  obtain ⟨locs, X, F, O⟩ := w
  obtain ⟨t, o, hs, r⟩ := g T w'
  exact ⟨t, o, XS.goto X.here hx rfl (pc0 := pc) rfl (hb hby hd) (by omega) (by omega) hs, r⟩
theorem s_if (H : Ok Z k R Q y b ml rt) {cd : ClassFile.Cond} {o : Int} {x : Int32} {py : Nat} {φ : Prop} (hd : decode b pc = .ok (.ifCond cd o, 3)) (hq : ifCond.holds cd x = true ↔ φ) (ho : (pc : Int) + o = py) (hp : pc + 3 = pc') (gy : φ → Go Z k cn sn M py Ls st) (gn : ¬ φ → Go Z k cn sn M pc' Ls st) : Go Z k cn sn M pc Ls (.int x :: st) := by
  obtain ⟨p, l, e, R', s, m, args, below, meth, c, Q'⟩ := k
  obtain ⟨hx, hZ, hby, -⟩ := H
  subst hp
  intro T w
  have w' := w
  obtain ⟨locs, X, F, O⟩ := w
  cases hh : ifCond.holds cd x with
  | true =>
    obtain ⟨t, o, hs, r⟩ := gy (hq.mp hh) T w'
    exact ⟨t, o, XS.ifYes X.here hx rfl (pc0 := pc) rfl (hb hby hd) rfl hh (by omega) (by omega) hs, r⟩
  | false =>
    obtain ⟨t, o, hs, r⟩ := gn (fun q => by rw [hq.mpr q] at hh; cases hh) T w'
    exact ⟨t, o, XS.ifNo X.here hx rfl (hb hby hd) rfl hh hs, r⟩
theorem s_icmp (H : Ok Z k R Q y b ml rt) {cd : ClassFile.Cond} {o : Int} {x u : Int32} {py : Nat} {φ : Prop} (hd : decode b pc = .ok (.if_icmp cd o, 3)) (hq : if_icmp.holds cd x u = true ↔ φ) (ho : (pc : Int) + o = py) (hp : pc + 3 = pc') (gy : φ → Go Z k cn sn M py Ls st) (gn : ¬ φ → Go Z k cn sn M pc' Ls st) : Go Z k cn sn M pc Ls (.int u :: .int x :: st) := by
  obtain ⟨p, l, e, R', s, m, args, below, meth, c, Q'⟩ := k
  obtain ⟨hx, hZ, hby, -⟩ := H
  subst hp
  intro T w
  have w' := w
  obtain ⟨locs, X, F, O⟩ := w
  cases hh : if_icmp.holds cd x u with
  | true =>
    obtain ⟨t, o, hs, r⟩ := gy (hq.mp hh) T w'
    exact ⟨t, o, XS.icmpYes X.here hx rfl (pc0 := pc) rfl (hb hby hd) rfl hh (by omega) (by omega) hs, r⟩
  | false =>
    obtain ⟨t, o, hs, r⟩ := gn (fun q => by rw [hq.mpr q] at hh; cases hh) T w'
    exact ⟨t, o, XS.icmpNo X.here hx rfl (hb hby hd) rfl hh hs, r⟩
theorem q_eq {x u : Int32} : if_icmp.holds .eq x u = true ↔ x = u := by simp [if_icmp.holds]
theorem z_eq {x : Int32} : ifCond.holds .eq x = true ↔ x = 0 := by rw [if0]; exact q_eq
theorem q_ne {x u : Int32} : if_icmp.holds .ne x u = true ↔ ¬ x = u := by simp [if_icmp.holds]
theorem z_ne {x : Int32} : ifCond.holds .ne x = true ↔ ¬ x = 0 := by rw [if0]; exact q_ne
theorem q_lt {x u : Int32} : if_icmp.holds .lt x u = true ↔ x < u := by simp [if_icmp.holds]
theorem z_lt {x : Int32} : ifCond.holds .lt x = true ↔ x < 0 := by rw [if0]; exact q_lt
theorem q_ge {x u : Int32} : if_icmp.holds .ge x u = true ↔ u ≤ x := by simp [if_icmp.holds]
theorem z_ge {x : Int32} : ifCond.holds .ge x = true ↔ 0 ≤ x := by rw [if0]; exact q_ge
theorem q_gt {x u : Int32} : if_icmp.holds .gt x u = true ↔ u < x := by simp [if_icmp.holds]
theorem z_gt {x : Int32} : ifCond.holds .gt x = true ↔ 0 < x := by rw [if0]; exact q_gt
theorem q_le {x u : Int32} : if_icmp.holds .le x u = true ↔ x ≤ u := by simp [if_icmp.holds]
theorem z_le {x : Int32} : ifCond.holds .le x = true ↔ x ≤ 0 := by rw [if0]; exact q_le
theorem l_eq {x u : Int64} : ifCond.holds .eq (lcmpW x u) = true ↔ x = u := z_eq.trans (lw_eq x u)
theorem l_ne {x u : Int64} : ifCond.holds .ne (lcmpW x u) = true ↔ ¬ x = u := z_ne.trans (not_congr (lw_eq x u))
theorem l_lt {x u : Int64} : ifCond.holds .lt (lcmpW x u) = true ↔ x < u := z_lt.trans (lw_lt x u)
theorem l_gt {x u : Int64} : ifCond.holds .gt (lcmpW x u) = true ↔ u < x := z_gt.trans (lw_gt x u)
theorem l_ge {x u : Int64} : ifCond.holds .ge (lcmpW x u) = true ↔ u ≤ x := z_ge.trans (by rw [lcW]; exact lc_ge x u)
theorem l_le {x u : Int64} : ifCond.holds .le (lcmpW x u) = true ↔ x ≤ u := z_le.trans (by rw [lcW]; exact lc_le x u)
theorem s_ifnull (H : Ok Z k R Q y b ml rt) {o : Int} {a : Addr} (hd : decode b pc = .ok (.ifnull o, 3)) (hp : pc + 3 = pc') (g : Go Z k cn sn M pc' Ls st) : Go Z k cn sn M pc Ls (.ref a :: st) := by
  obtain ⟨p, l, e, R', s, m, args, below, meth, c, Q'⟩ := k
  obtain ⟨hx, hZ, hby, -⟩ := H
  subst hp
  intro T w
  have w' := w
  obtain ⟨locs, X, F, O⟩ := w
  obtain ⟨t, o, hs, r⟩ := g T w'
  exact ⟨t, o, XS.ifnullNo X.here hx rfl (hb hby hd) rfl hs, r⟩
theorem s_acmpne (H : Ok Z k R Q y b ml rt) {o : Int} {a a' : Addr} {py : Nat} (hd : decode b pc = .ok (.if_acmp .ne o, 3)) (hne : a ≠ a') (ho : (pc : Int) + o = py) (g : Go Z k cn sn M py Ls st) : Go Z k cn sn M pc Ls (.ref a' :: .ref a :: st) := by
  obtain ⟨p, l, e, R', s, m, args, below, meth, c, Q'⟩ := k
  obtain ⟨hx, hZ, hby, -⟩ := H
  intro T w
  have w' := w
  obtain ⟨locs, X, F, O⟩ := w
  obtain ⟨t, o, hs, r⟩ := g T w'
  exact ⟨t, o, XS.acmpYes X.here hx rfl (pc0 := pc) rfl (hb hby hd) rfl (by simp [if_acmp.holds, hne]) (by omega) (by omega) hs, r⟩
theorem s_acmpeq (H : Ok Z k R Q y b ml rt) {o : Int} {a a' : Addr} (hd : decode b pc = .ok (.if_acmp .eq o, 3)) (hne : a ≠ a') (hp : pc + 3 = pc') (g : Go Z k cn sn M pc' Ls st) : Go Z k cn sn M pc Ls (.ref a' :: .ref a :: st) := by
  obtain ⟨p, l, e, R', s, m, args, below, meth, c, Q'⟩ := k
  obtain ⟨hx, hZ, hby, -⟩ := H
  subst hp
  intro T w
  have w' := w
  obtain ⟨locs, X, F, O⟩ := w
  obtain ⟨t, o, hs, r⟩ := g T w'
  exact ⟨t, o, XS.acmpNo X.here hx rfl (hb hby hd) rfl (by simp [if_acmp.holds, hne]) hs, r⟩
theorem s_ldc2 (H : Ok Z k R Q y b ml rt) {i : Nat} {z : Int64} (hd : decode b pc = .ok (.ldc2_w i, 3)) (w1 : Jvm.Cond.constantLong y.cls i z ∈ tables_1) (hp : pc + 3 = pc') (g : Go Z k cn sn M pc' Ls (.long z :: st)) : Go Z k cn sn M pc Ls st := by
  obtain ⟨p, l, e, R', s, m, args, below, meth, c, Q'⟩ := k
  obtain ⟨hx, hZ, hby, -, hown, -, -, -, ⟨a0, hw⟩, -⟩ := H
  subst hp
  intro T w
  have w' := w
  obtain ⟨locs, X, F, O⟩ := w
  obtain ⟨t, o, hs, r⟩ := g T w'
  exact ⟨t, o, X.ldc2Long hx hown (mvT hZ (hw _ w1)) (g := mkF m pc Ls st) rfl (hb hby hd) _ hs, r⟩
theorem s_ldc (H : Ok Z k R Q y b ml rt) {i : Nat} {z : Int32} (hd : decode b pc = .ok (.ldc i, 2)) (w1 : Jvm.Cond.constant y.cls i z ∈ tables_1) (hp : pc + 2 = pc') (g : Go Z k cn sn M pc' Ls (.int z :: st)) : Go Z k cn sn M pc Ls st := by
  obtain ⟨p, l, e, R', s, m, args, below, meth, c, Q'⟩ := k
  obtain ⟨hx, hZ, hby, -, hown, -, -, -, ⟨a0, hw⟩, -⟩ := H
  subst hp
  intro T w
  have w' := w
  obtain ⟨locs, X, F, O⟩ := w
  obtain ⟨t, o, hs, r⟩ := g T w'
  exact ⟨t, o, X.ldcInt hx hown (mvT hZ (hw _ w1)) (g := mkF m pc Ls st) rfl (hb hby hd) _ hs, r⟩
/-! the heap's steps -/
theorem nb_of {n : Nat} {j : Int32} (h0 : ¬ j < 0) (hl : j.toNatClampNeg < n) : ¬ (j < 0 ∨ n ≤ j.toNatClampNeg) := fun q => q.elim h0 fun r => Nat.not_lt.mpr r hl
theorem s_alenI (H : Ok Z k R Q y b ml rt) {i : Nat} {a : Addr} {ty : FieldType} {vs : List Int32} {z : Int32} (hd : decode b pc = .ok (.arraylength, 1)) (hi : M[i]? = some (a, ArI Z ty vs)) (hz : z = vs.length.toInt32) (hp : pc + 1 = pc') (g : Go Z k cn sn M pc' Ls (.int z :: st)) : Go Z k cn sn M pc Ls (.ref a :: st) := by
  obtain ⟨p, l, e, R', s, m, args, below, meth, c, Q'⟩ := k
  obtain ⟨hx, hZ, hby, -⟩ := H
  subst hp hz
  intro T w
  have w' := w
  obtain ⟨locs, X, F, O⟩ := w
  obtain ⟨-, cl, q1, q2⟩ := O.2.1 i _ hi
  obtain ⟨t, o, hs, r⟩ := g T w'
  exact ⟨t, o, X.arraylength hx q1 (State.isArrayOf_alike hZ.alike q2.1) (g := mkF m pc Ls (.ref a :: st)) rfl rfl (hb hby hd) _ (by rw [q2.size]; exact hs), r⟩
theorem s_alenL (H : Ok Z k R Q y b ml rt) {i : Nat} {a : Addr} {vs : List Int64} {z : Int32} (hd : decode b pc = .ok (.arraylength, 1)) (hi : M[i]? = some (a, ArL Z vs)) (hz : z = vs.length.toInt32) (hp : pc + 1 = pc') (g : Go Z k cn sn M pc' Ls (.int z :: st)) : Go Z k cn sn M pc Ls (.ref a :: st) := by
  obtain ⟨p, l, e, R', s, m, args, below, meth, c, Q'⟩ := k
  obtain ⟨hx, hZ, hby, -⟩ := H
  subst hp hz
  intro T w
  have w' := w
  obtain ⟨locs, X, F, O⟩ := w
  obtain ⟨-, cl, q1, q2⟩ := O.2.1 i _ hi
  obtain ⟨t, o, hs, r⟩ := g T w'
  exact ⟨t, o, X.arraylength hx q1 (State.isArrayOf_alike hZ.alike q2.1) (g := mkF m pc Ls (.ref a :: st)) rfl rfl (hb hby hd) _ (by rw [q2.size]; exact hs), r⟩
theorem s_iaload (H : Ok Z k R Q y b ml rt) {i : Nat} {a : Addr} {vs : List Int32} {j : Int32} {x : Int32} (hd : decode b pc = .ok (.iaload, 1)) (hi : M[i]? = some (a, ArI Z .int vs)) (h0 : ¬ j < 0) {jn : Nat} (hjn : j.toNatClampNeg = jn) (hv : vs[jn]? = some x) (hp : pc + 1 = pc') (g : Go Z k cn sn M pc' Ls (.int x :: st)) : Go Z k cn sn M pc Ls (.int j :: .ref a :: st) := by
  obtain ⟨p, l, e, R', s, m, args, below, meth, c, Q'⟩ := k
  obtain ⟨hx, hZ, hby, -⟩ := H
  subst hp hjn
  intro T w
  have w' := w
  obtain ⟨locs, X, F, O⟩ := w
  obtain ⟨-, cl, q1, q2⟩ := O.2.1 i _ hi
  obtain ⟨t, o, hs, r⟩ := g T w'
  have hlt : j.toNatClampNeg < vs.length := (List.getElem?_eq_some_iff.mp hv).1
  exact ⟨t, o, X.iaload hx (v := .int x) q1 (State.isArrayOf_alike hZ.alike q2.1) q2.2.1 (nb_of h0 (by rw [q2.size]; exact hlt)) (by rw [q2.2.2.1]; simp [hv]) (g := mkF m pc Ls (.int j :: .ref a :: st)) rfl rfl (hb hby hd) _ hs, r⟩
theorem s_baload (H : Ok Z k R Q y b ml rt) {i : Nat} {a : Addr} {vs : List Int32} {j : Int32} {x : Int32} (hd : decode b pc = .ok (.baload, 1)) (hi : M[i]? = some (a, ArI Z .byte vs)) (h0 : ¬ j < 0) {jn : Nat} (hjn : j.toNatClampNeg = jn) (hv : vs[jn]? = some x) (hp : pc + 1 = pc') (g : Go Z k cn sn M pc' Ls (.int x :: st)) : Go Z k cn sn M pc Ls (.int j :: .ref a :: st) := by
  obtain ⟨p, l, e, R', s, m, args, below, meth, c, Q'⟩ := k
  obtain ⟨hx, hZ, hby, -⟩ := H
  subst hp hjn
  intro T w
  have w' := w
  obtain ⟨locs, X, F, O⟩ := w
  obtain ⟨-, cl, q1, q2⟩ := O.2.1 i _ hi
  obtain ⟨t, o, hs, r⟩ := g T w'
  have hlt : j.toNatClampNeg < vs.length := (List.getElem?_eq_some_iff.mp hv).1
  exact ⟨t, o, X.baloadBytes hx (v := .int x) q1 (State.isArrayOf_alike hZ.alike q2.1) q2.2.1 (nb_of h0 (by rw [q2.size]; exact hlt)) (by rw [q2.2.2.1]; simp [hv]) (g := mkF m pc Ls (.int j :: .ref a :: st)) rfl rfl (hb hby hd) _ hs, r⟩
theorem s_zaload (H : Ok Z k R Q y b ml rt) {i : Nat} {a : Addr} {vs : List Int32} {j : Int32} {x : Int32} (hd : decode b pc = .ok (.baload, 1)) (hi : M[i]? = some (a, ArI Z .boolean vs)) (h0 : ¬ j < 0) {jn : Nat} (hjn : j.toNatClampNeg = jn) (hv : vs[jn]? = some x) (hp : pc + 1 = pc') (g : Go Z k cn sn M pc' Ls (.int x :: st)) : Go Z k cn sn M pc Ls (.int j :: .ref a :: st) := by
  obtain ⟨p, l, e, R', s, m, args, below, meth, c, Q'⟩ := k
  obtain ⟨hx, hZ, hby, -⟩ := H
  subst hp hjn
  intro T w
  have w' := w
  obtain ⟨locs, X, F, O⟩ := w
  obtain ⟨-, cl, q1, q2⟩ := O.2.1 i _ hi
  obtain ⟨t, o, hs, r⟩ := g T w'
  have hlt : j.toNatClampNeg < vs.length := (List.getElem?_eq_some_iff.mp hv).1
  exact ⟨t, o, X.baloadBooleans hx (v := .int x) q1 (State.isArrayOf_alike hZ.alike q2.1) q2.2.1 (nb_of h0 (by rw [q2.size]; exact hlt)) (by rw [q2.2.2.1]; simp [hv]) (g := mkF m pc Ls (.int j :: .ref a :: st)) rfl rfl (hb hby hd) _ hs, r⟩
theorem s_laload (H : Ok Z k R Q y b ml rt) {i : Nat} {a : Addr} {vs : List Int64} {j : Int32} {x : Int64} (hd : decode b pc = .ok (.laload, 1)) (hi : M[i]? = some (a, ArL Z vs)) (h0 : ¬ j < 0) {jn : Nat} (hjn : j.toNatClampNeg = jn) (hv : vs[jn]? = some x) (hp : pc + 1 = pc') (g : Go Z k cn sn M pc' Ls (.long x :: st)) : Go Z k cn sn M pc Ls (.int j :: .ref a :: st) := by
  obtain ⟨p, l, e, R', s, m, args, below, meth, c, Q'⟩ := k
  obtain ⟨hx, hZ, hby, -⟩ := H
  subst hp hjn
  intro T w
  have w' := w
  obtain ⟨locs, X, F, O⟩ := w
  obtain ⟨-, cl, q1, q2⟩ := O.2.1 i _ hi
  obtain ⟨t, o, hs, r⟩ := g T w'
  have hlt : j.toNatClampNeg < vs.length := (List.getElem?_eq_some_iff.mp hv).1
  exact ⟨t, o, X.laload hx (v := .long x) q1 (State.isArrayOf_alike hZ.alike q2.1) q2.2.1 (nb_of h0 (by rw [q2.size]; exact hlt)) (by rw [q2.2.2.1]; simp [hv]) (g := mkF m pc Ls (.int j :: .ref a :: st)) rfl rfl (hb hby hd) _ hs, r⟩
theorem s_iastore (H : Ok Z k R Q y b ml rt) {i : Nat} {a : Addr} {vs : List Int32} {j : Int32} {x : Int32} (hd : decode b pc = .ok (.iastore, 1)) (hi : M[i]? = some (a, ArI Z .int vs)) (h0 : ¬ j < 0) {jn : Nat} (hjn : j.toNatClampNeg = jn) (hj : jn < vs.length) (hp : pc + 1 = pc') (g : Go Z k cn sn (M.set i (a, ArI Z .int (vs.set jn x))) pc' Ls st) : Go Z k cn sn M pc Ls (.int x :: .int j :: .ref a :: st) := by
  obtain ⟨p, l, e, R', s, m, args, below, meth, c, Q'⟩ := k
  obtain ⟨hx, hZ, hby, -⟩ := H
  subst hp hjn
  intro T w
  obtain ⟨locs, X, F, O⟩ := w
  obtain ⟨q0, cl, q1, q2⟩ := O.2.1 i _ hi
  obtain ⟨T', h', X', e', W, sg⟩ := stI X hx hZ rfl (q2.arr q1) (j := j) (nb_of h0 (by rw [q2.size]; exact hj)) (g := mkF m pc Ls (.int x :: .int j :: .ref a :: st)) rfl rfl (hb hby hd)
  obtain ⟨t, o, hs, r⟩ := g T' ⟨_, X', Fr.snoc X' F q0, e' ▸ O.upd hi W fun c _ hc => hc.put _ rfl⟩
  exact ⟨t, o, sg _ hs, r⟩
theorem s_bastore (H : Ok Z k R Q y b ml rt) {i : Nat} {a : Addr} {vs : List Int32} {j : Int32} {x0 x : Int32} (hd : decode b pc = .ok (.bastore, 1)) (hi : M[i]? = some (a, ArI Z .byte vs)) (h0 : ¬ j < 0) {jn : Nat} (hjn : j.toNatClampNeg = jn) (hj : jn < vs.length) (hn : x = nar .byte x0) (hp : pc + 1 = pc') (g : Go Z k cn sn (M.set i (a, ArI Z .byte (vs.set jn x))) pc' Ls st) : Go Z k cn sn M pc Ls (.int x0 :: .int j :: .ref a :: st) := by
  obtain ⟨p, l, e, R', s, m, args, below, meth, c, Q'⟩ := k
  obtain ⟨hx, hZ, hby, -⟩ := H
  subst hp hjn hn
  intro T w
  obtain ⟨locs, X, F, O⟩ := w
  obtain ⟨q0, cl, q1, q2⟩ := O.2.1 i _ hi
  obtain ⟨T', h', X', e', W, sg⟩ := stB X hx hZ rfl (q2.arr q1) (j := j) (nb_of h0 (by rw [q2.size]; exact hj)) (g := mkF m pc Ls (.int x0 :: .int j :: .ref a :: st)) rfl rfl (hb hby hd)
  obtain ⟨t, o, hs, r⟩ := g T' ⟨_, X', Fr.snoc X' F q0, e' ▸ O.upd hi W fun c _ hc => hc.put _ (fits_nar_byte _)⟩
  exact ⟨t, o, sg _ hs, r⟩
theorem s_zastore (H : Ok Z k R Q y b ml rt) {i : Nat} {a : Addr} {vs : List Int32} {j : Int32} {x0 x : Int32} (hd : decode b pc = .ok (.bastore, 1)) (hi : M[i]? = some (a, ArI Z .boolean vs)) (h0 : ¬ j < 0) {jn : Nat} (hjn : j.toNatClampNeg = jn) (hj : jn < vs.length) (hn : x = nar .boolean x0) (hp : pc + 1 = pc') (g : Go Z k cn sn (M.set i (a, ArI Z .boolean (vs.set jn x))) pc' Ls st) : Go Z k cn sn M pc Ls (.int x0 :: .int j :: .ref a :: st) := by
  obtain ⟨p, l, e, R', s, m, args, below, meth, c, Q'⟩ := k
  obtain ⟨hx, hZ, hby, -⟩ := H
  subst hp hjn hn
  intro T w
  obtain ⟨locs, X, F, O⟩ := w
  obtain ⟨q0, cl, q1, q2⟩ := O.2.1 i _ hi
  obtain ⟨T', h', X', e', W, sg⟩ := stZ X hx hZ rfl (q2.arr q1) (j := j) (nb_of h0 (by rw [q2.size]; exact hj)) (g := mkF m pc Ls (.int x0 :: .int j :: .ref a :: st)) rfl rfl (hb hby hd)
  obtain ⟨t, o, hs, r⟩ := g T' ⟨_, X', Fr.snoc X' F q0, e' ▸ O.upd hi W fun c _ hc => hc.put _ (fits_nar_bool _)⟩
  exact ⟨t, o, sg _ hs, r⟩
theorem s_lastore (H : Ok Z k R Q y b ml rt) {i : Nat} {a : Addr} {vs : List Int64} {j : Int32} {x : Int64} (hd : decode b pc = .ok (.lastore, 1)) (hi : M[i]? = some (a, ArL Z vs)) (h0 : ¬ j < 0) {jn : Nat} (hjn : j.toNatClampNeg = jn) (hj : jn < vs.length) (hp : pc + 1 = pc') (g : Go Z k cn sn (M.set i (a, ArL Z (vs.set jn x))) pc' Ls st) : Go Z k cn sn M pc Ls (.long x :: .int j :: .ref a :: st) := by
  obtain ⟨p, l, e, R', s, m, args, below, meth, c, Q'⟩ := k
  obtain ⟨hx, hZ, hby, -⟩ := H
  subst hp hjn
  intro T w
  obtain ⟨locs, X, F, O⟩ := w
  obtain ⟨q0, cl, q1, q2⟩ := O.2.1 i _ hi
  obtain ⟨T', h', X', e', W, sg⟩ := stJ X hx hZ rfl (q2.arr q1) (j := j) (nb_of h0 (by rw [q2.size]; exact hj)) (g := mkF m pc Ls (.long x :: .int j :: .ref a :: st)) rfl rfl (hb hby hd)
  obtain ⟨t, o, hs, r⟩ := g T' ⟨_, X', Fr.snoc X' F q0, e' ▸ O.upd hi W fun c _ hc => hc.put _⟩
  exact ⟨t, o, sg _ hs, r⟩
theorem s_getf (H : Ok Z k R Q y b ml rt) {i j idx : Nat} {a : Addr} {C O n d : String} {fs : List Fd} {v : Value} (hd : decode b pc = .ok (.getfield idx, 3)) (w1 : Jvm.Cond.fieldLink y.cls idx O n d ∈ tables_1) (hi : M[i]? = some (a, Obj Z C fs)) (hj : fs[j]? = some (O, n, d, v)) (hp : pc + 3 = pc') (g : Go Z k cn sn M pc' Ls (v :: st)) : Go Z k cn sn M pc Ls (.ref a :: st) := by
  obtain ⟨p, l, e, R', s, m, args, below, meth, c, Q'⟩ := k
  obtain ⟨hx, hZ, hby, -, hown, -, -, -, ⟨a0, hw⟩, -⟩ := H
  subst hp
  intro T w
  obtain ⟨locs, X, F, OO⟩ := w
  obtain ⟨-, cl, q1, q2⟩ := OO.2.1 i _ hi
  obtain ⟨T', X', e', sg⟩ := getF X hx hZ hown (host := "") (Or.inl (hw _ w1)) Via.refl rfl ((q2.1 _ _ q1).2 j _ hj) (g := mkF m pc Ls (.ref a :: st)) rfl rfl (hb hby hd)
  obtain ⟨t, o, hs, r⟩ := g T' ⟨_, X', F, e' ▸ OO⟩
  exact ⟨t, o, sg _ hs, r⟩
theorem s_getfN (H : Ok Z k R Q y b ml rt) {i j idx : Nat} {a : Addr} {C O n d host : String} {fs : List Fd} {v : Value} (hd : decode b pc = .ok (.getfield idx, 3)) (w1 : Jvm.Cond.fieldLinkNest y.cls idx O n d host ∈ tables_1) (hi : M[i]? = some (a, Obj Z C fs)) (hj : fs[j]? = some (O, n, d, v)) (hp : pc + 3 = pc') (g : Go Z k cn sn M pc' Ls (v :: st)) : Go Z k cn sn M pc Ls (.ref a :: st) := by
  obtain ⟨p, l, e, R', s, m, args, below, meth, c, Q'⟩ := k
  obtain ⟨hx, hZ, hby, -, hown, -, -, -, ⟨a0, hw⟩, -⟩ := H
  subst hp
  intro T w
  obtain ⟨locs, X, F, OO⟩ := w
  obtain ⟨-, cl, q1, q2⟩ := OO.2.1 i _ hi
  obtain ⟨T', X', e', sg⟩ := getF X hx hZ hown (host := host) (Or.inr (hw _ w1)) Via.refl rfl ((q2.1 _ _ q1).2 j _ hj) (g := mkF m pc Ls (.ref a :: st)) rfl rfl (hb hby hd)
  obtain ⟨t, o, hs, r⟩ := g T' ⟨_, X', F, e' ▸ OO⟩
  exact ⟨t, o, sg _ hs, r⟩
theorem s_putf (H : Ok Z k R Q y b ml rt) {i j idx kk : Nat} {a : Addr} {C O n d : String} {fs : List Fd} {v v0 : Value} {ty : FieldType} (hd : decode b pc = .ok (.putfield idx, 3)) (w1 : Jvm.Cond.fieldLink y.cls idx O n d ∈ tables_1) (w2 : Jvm.Cond.lays C O n d ∈ tables_1 ∨ (Jvm.Cond.laysFinal C O n d ∈ tables_1 ∧ y.cls = O ∧ y.name = "<init>")) (w3 : Jvm.Cond.instantiable C kk ∈ tables_1)
    (hty : parseFieldDescriptor d = some ty) (hn : narrow ty v = v) (hf : fits ty v = true) (hi : M[i]? = some (a, Obj Z C fs)) (hj : fs[j]? = some (O, n, d, v0)) (hp : pc + 3 = pc') (g : Go Z k cn sn (M.set i (a, Obj Z C (fs.set j (O, n, d, v)))) pc' Ls st) : Go Z k cn sn M pc Ls (v :: .ref a :: st) := by
  obtain ⟨p, l, e, R', s, m, args, below, meth, c, Q'⟩ := k
  obtain ⟨hx, hZ, hby, -, hown, hnm, -, -, ⟨a0, hw⟩, -⟩ := H
  subst hp
  intro T w
  obtain ⟨locs, X, F, OO⟩ := w
  obtain ⟨q0, cl, q1, q2⟩ := OO.2.1 i _ hi
  obtain ⟨T', h', X', e', W, sg⟩ := putF X hx hZ hown (host := "") (Or.inl (hw _ w1)) Via.refl rfl ((q2.1 _ _ q1).2 j _ hj) (q2.1 _ _ q1).1 (w2.imp (fun q => hw _ q) fun q => ⟨hw _ q.1, q.2.1, hnm.trans q.2.2⟩) (hw _ w3) hty hn hf (g := mkF m pc Ls (v :: .ref a :: st)) rfl rfl (hb hby hd)
  obtain ⟨t, o, hs, r⟩ := g T' ⟨_, X', Fr.snoc X' F q0, e' ▸ OO.upd hi W fun c hc1 hc => hc.put hj hc1 W⟩
  exact ⟨t, o, sg _ hs, r⟩
def Dflt (C : String) (f : Fd) : Prop := (Jvm.Cond.lays C f.1 f.2.1 f.2.2.1 ∈ tables_1 ∨ Jvm.Cond.laysFinal C f.1 f.2.1 f.2.2.1 ∈ tables_1) ∧ ∃ ty, parseFieldDescriptor f.2.2.1 = some ty ∧ f.2.2.2 = defaultValue ty
theorem s_new (H : Ok Z k R Q y b ml rt) {idx n cn' sn' : Nat} {C : String} (fs : List Fd) (hd : decode b pc = .ok (.new idx, 3)) (w1 : Jvm.Cond.classLink y.cls idx C ∈ tables_1) (w2 : Jvm.Cond.instantiable C n ∈ tables_1) (w3 : Jvm.Cond.initialized C ∈ tables_1) (hD : ∀ f ∈ fs, Dflt C f) (hN : (fs.map fun f => f.2.1).Nodup) (hc : cn + 1 = cn') (hs : sn + n = sn') (hc' : cn' ≤ R.cells) (hs' : sn' ≤ R.slots) (hp : pc + 3 = pc')
    (g : ∀ a, Go Z k cn' sn' ((a, Obj Z C fs) :: M) pc' Ls (.ref a :: st)) : Go Z k cn sn M pc Ls st := by
  obtain ⟨p, l, e, R', s, m, args, below, meth, c, Q'⟩ := k
  obtain ⟨hx, hZ, hby, -, hown, hnm, -, -, ⟨a0, hw⟩, rfl, -⟩ := H
  subst hp hc hs
  intro T w
  obtain ⟨locs, X, F, OO⟩ := w
  obtain ⟨T', h', X', e', E, A, D, ⟨cell, hcell, -⟩, sg⟩ := newO X hx hZ hown (hw _ w1) (hw _ w2) (hw _ w3) rfl (g := mkF m pc Ls st) rfl (hb hby hd) hc' hs'
  have hL : ∀ f ∈ fs, Laid Z a0 C f.1 f.2.1 f.2.2.1 := fun f hf => (hD f hf).1.imp (fun q => hw _ q) fun q => hw _ q
  have hB : Obj Z C fs cell := by
    refine ⟨fun h2 a2 hc2 => ⟨exa_at_cell A hcell hc2, fun i f hf => ?_⟩, fun i j f f' hf hf' es => ?_⟩
    · have hm := List.mem_of_getElem? hf
      obtain ⟨-, ty, h1, h2⟩ := hD f hm
      rw [h2]
      exact fld_at_cell (D (hL f hm) h1) hcell hc2
    · obtain ⟨-, ty, h1, -⟩ := hD f (List.mem_of_getElem? hf)
      obtain ⟨-, ty', h1', -⟩ := hD f' (List.mem_of_getElem? hf')
      have hne : f.2.1 = f'.2.1 := Classical.byContradiction fun q => slot_ne (hL f (List.mem_of_getElem? hf)) (hL f' (List.mem_of_getElem? hf')) q h1 h1' es
      rw [List.nodup_iff_pairwise_ne, List.pairwise_iff_getElem] at hN
      obtain ⟨hi, rfl⟩ := List.getElem?_eq_some_iff.mp hf
      obtain ⟨hj, rfl⟩ := List.getElem?_eq_some_iff.mp hf'
      rcases Nat.lt_trichotomy i j with lt | rfl | lt
      · exact (hN i j (by simpa using hi) (by simpa using hj) lt (by simpa using hne)).elim
      · rfl
      · exact (hN j i (by simpa using hj) (by simpa using hi) lt (by simpa using hne.symm)).elim
  obtain ⟨t, o, hs, r⟩ := g _ T' ⟨_, X', F, e' ▸ OO.new E hcell hB⟩
  exact ⟨t, o, sg _ hs, r⟩
theorem s_newarr_int (H : Ok Z k R Q y b ml rt) {cn' sn' cap : Nat} {n : Int32} (hd : decode b pc = .ok (.newarray .int, 2)) (w1 : Jvm.Cond.arrayClass .int ∈ tables_1) (hn : ¬ n < 0) (hcap : n.toNatClampNeg ≤ cap) (hb8 : cap * 8 ≤ 536870912) (hc : cn + 1 = cn') (hs : sn + cap = sn') (hc' : cn' ≤ R.cells) (hs' : sn' ≤ R.slots) (hp : pc + 2 = pc')
    (g : ∀ a, Go Z k cn' sn' ((a, ArI Z .int (List.replicate n.toNatClampNeg 0)) :: M) pc' Ls (.ref a :: st)) : Go Z k cn sn M pc Ls (.int n :: st) := by
  obtain ⟨p, l, e, R', s, m, args, below, meth, c, Q'⟩ := k
  obtain ⟨hx, hZ, hby, -, hown, hnm, -, -, ⟨a0, hw⟩, rfl, -⟩ := H
  subst hp hc hs
  intro T w
  obtain ⟨locs, X, F, OO⟩ := w
  obtain ⟨T', h', cA, X', e', E, A, sg⟩ := newP X hx hZ (aty := .int) (hw _ w1) rfl (g := mkF m pc Ls (.int n :: st)) rfl (hb hby hd) rfl hn hcap hb8 hc' hs'
  have hB : ArI Z .int (List.replicate n.toNatClampNeg 0) (newA cA .int n) := ⟨A.2.1, A.2.2, by simp [newA, defaultValue], by simp; omega, fun x hx => by rw [List.eq_of_mem_replicate hx]; rfl⟩
  obtain ⟨t, o, hs, r⟩ := g _ T' ⟨_, X', F, e' ▸ OO.new E A.1 hB⟩
  exact ⟨t, o, sg _ hs, r⟩
theorem s_newarr_byte (H : Ok Z k R Q y b ml rt) {cn' sn' cap : Nat} {n : Int32} (hd : decode b pc = .ok (.newarray .byte, 2)) (w1 : Jvm.Cond.arrayClass .byte ∈ tables_1) (hn : ¬ n < 0) (hcap : n.toNatClampNeg ≤ cap) (hb8 : cap * 8 ≤ 536870912) (hc : cn + 1 = cn') (hs : sn + cap = sn') (hc' : cn' ≤ R.cells) (hs' : sn' ≤ R.slots) (hp : pc + 2 = pc')
    (g : ∀ a, Go Z k cn' sn' ((a, ArI Z .byte (List.replicate n.toNatClampNeg 0)) :: M) pc' Ls (.ref a :: st)) : Go Z k cn sn M pc Ls (.int n :: st) := by
  obtain ⟨p, l, e, R', s, m, args, below, meth, c, Q'⟩ := k
  obtain ⟨hx, hZ, hby, -, hown, hnm, -, -, ⟨a0, hw⟩, rfl, -⟩ := H
  subst hp hc hs
  intro T w
  obtain ⟨locs, X, F, OO⟩ := w
  obtain ⟨T', h', cA, X', e', E, A, sg⟩ := newP X hx hZ (aty := .byte) (hw _ w1) rfl (g := mkF m pc Ls (.int n :: st)) rfl (hb hby hd) rfl hn hcap hb8 hc' hs'
  have hB : ArI Z .byte (List.replicate n.toNatClampNeg 0) (newA cA .byte n) := ⟨A.2.1, A.2.2, by simp [newA, defaultValue], by simp; omega, fun x hx => by rw [List.eq_of_mem_replicate hx]; rfl⟩
  obtain ⟨t, o, hs, r⟩ := g _ T' ⟨_, X', F, e' ▸ OO.new E A.1 hB⟩
  exact ⟨t, o, sg _ hs, r⟩
theorem s_newarr_bool (H : Ok Z k R Q y b ml rt) {cn' sn' cap : Nat} {n : Int32} (hd : decode b pc = .ok (.newarray .boolean, 2)) (w1 : Jvm.Cond.arrayClass .boolean ∈ tables_1) (hn : ¬ n < 0) (hcap : n.toNatClampNeg ≤ cap) (hb8 : cap * 8 ≤ 536870912) (hc : cn + 1 = cn') (hs : sn + cap = sn') (hc' : cn' ≤ R.cells) (hs' : sn' ≤ R.slots) (hp : pc + 2 = pc')
    (g : ∀ a, Go Z k cn' sn' ((a, ArI Z .boolean (List.replicate n.toNatClampNeg 0)) :: M) pc' Ls (.ref a :: st)) : Go Z k cn sn M pc Ls (.int n :: st) := by
  obtain ⟨p, l, e, R', s, m, args, below, meth, c, Q'⟩ := k
  obtain ⟨hx, hZ, hby, -, hown, hnm, -, -, ⟨a0, hw⟩, rfl, -⟩ := H
  subst hp hc hs
  intro T w
  obtain ⟨locs, X, F, OO⟩ := w
  obtain ⟨T', h', cA, X', e', E, A, sg⟩ := newP X hx hZ (aty := .boolean) (hw _ w1) rfl (g := mkF m pc Ls (.int n :: st)) rfl (hb hby hd) rfl hn hcap hb8 hc' hs'
  have hB : ArI Z .boolean (List.replicate n.toNatClampNeg 0) (newA cA .boolean n) := ⟨A.2.1, A.2.2, by simp [newA, defaultValue], by simp; omega, fun x hx => by rw [List.eq_of_mem_replicate hx]; rfl⟩
  obtain ⟨t, o, hs, r⟩ := g _ T' ⟨_, X', F, e' ▸ OO.new E A.1 hB⟩
  exact ⟨t, o, sg _ hs, r⟩
theorem s_newarr_long (H : Ok Z k R Q y b ml rt) {cn' sn' cap : Nat} {n : Int32} (hd : decode b pc = .ok (.newarray .long, 2)) (w1 : Jvm.Cond.arrayClass .long ∈ tables_1) (hn : ¬ n < 0) (hcap : n.toNatClampNeg ≤ cap) (hb8 : cap * 8 ≤ 536870912) (hc : cn + 1 = cn') (hs : sn + cap = sn') (hc' : cn' ≤ R.cells) (hs' : sn' ≤ R.slots) (hp : pc + 2 = pc')
    (g : ∀ a, Go Z k cn' sn' ((a, ArL Z (List.replicate n.toNatClampNeg 0)) :: M) pc' Ls (.ref a :: st)) : Go Z k cn sn M pc Ls (.int n :: st) := by
  obtain ⟨p, l, e, R', s, m, args, below, meth, c, Q'⟩ := k
  obtain ⟨hx, hZ, hby, -, hown, hnm, -, -, ⟨a0, hw⟩, rfl, -⟩ := H
  subst hp hc hs
  intro T w
  obtain ⟨locs, X, F, OO⟩ := w
  obtain ⟨T', h', cA, X', e', E, A, sg⟩ := newP X hx hZ (aty := .long) (hw _ w1) rfl (g := mkF m pc Ls (.int n :: st)) rfl (hb hby hd) rfl hn hcap hb8 hc' hs'
  have hB : ArL Z (List.replicate n.toNatClampNeg 0) (newA cA .long n) := ⟨A.2.1, A.2.2, by simp [newA, defaultValue], by simp; omega⟩
  obtain ⟨t, o, hs, r⟩ := g _ T' ⟨_, X', F, e' ▸ OO.new E A.1 hB⟩
  exact ⟨t, o, sg _ hs, r⟩
/-! OWN KIT 3: contracts and calls -/
def MQ (Z : State) (rm : Room) (Q : Option Value → Hp → Prop) (U : State) (o : Outcome) (U' : State) : Prop := ∃ v L, o = .returned v ∧ (Fr Z.heap.size L ∧ ∃ M, Q v M ∧ Own Z U'.heap M) ∧ FrameEnd U o U' L rm.cells rm.slots
def Met (Z : State) (y : MethodName) (b : ByteArray) (ml : Nat) (rt : Option FieldType) (rm : Room) (as : List Value) (M : Hp) (Q : Option Value → Hp → Prop) : Prop :=
  ∀ (l : Launch) (h0 : Heap), Own Z h0 M → MetFree l y (head1 [Jvm.Cond.code y b ml rt] rm) (fun a U => a = as.toArray ∧ Z.Warmed39 U.vm ∧ U.heap = h0) (fun _ _ _ _ _ => True) (fun _ U o U' => ∃ v L, o = .returned v ∧ (Fr Z.heap.size L ∧ ∃ M, Q v M ∧ Own Z U'.heap M) ∧ FrameEnd U o U' L rm.cells rm.slots)
theorem met_of {ws : List Jvm.Cond} {as : List Value} {rm : Room} {h0 : Heap} (l : Launch) (hT : Tb Z) (hpl : plainFor y = true) (hef : ∀ m, entryFrame m as.toArray ml = mkF m 0 Ls []) (hO : Own Z h0 M) (body : ∀ k, Ok Z k rm Q y b ml rt → Go Z k 0 0 M 0 Ls []) :
    MetFree l y (head1 (Jvm.Cond.code y b ml rt :: ws) rm) (fun a U => a = as.toArray ∧ Z.Warmed39 U.vm ∧ U.heap = h0) (fun _ _ _ _ _ => True) (fun _ U o U' => ∃ v L, o = .returned v ∧ (Fr Z.heap.size L ∧ ∃ M, Q v M ∧ Own Z U'.heap M) ∧ FrameEnd U o U' L rm.cells rm.slots) := by
  refine MetFree.of_bodySF hpl hisR ?_
  intro p e s m args below meth c s₁ Bd hml0 hP hK
  obtain ⟨rfl, hZ, hh⟩ := hP
  have X0 : Stand p l e rm s m as.toArray below meth c s₁ [] 0 0 := Stand.of_body Bd
  have e0 : s₁.heap = h0 := by rw [← hh, Bd.state]; rfl
  obtain ⟨t, o, hs, r⟩ := body (p, l, e, rm, s, m, as.toArray, below, meth, c, Q) ⟨Bd.exec, hZ, Bd.bytes, hml0, findClass_of_methodNamed Bd.named, (name_of_methodNamed Bd.named Bd.method).1, Bd.returns, Bd.notSynchronized, hT, rfl, rfl⟩ s₁ ⟨[], X0, Fr.nil _, e0 ▸ hO⟩
  exact ⟨t, o, castTop (hef m) hs, r⟩
theorem Met.of {as : List Value} {rm : Room} (hT : Tb Z) (hpl : plainFor y = true) (hef : ∀ m, entryFrame m as.toArray ml = mkF m 0 Ls []) (body : ∀ k, Ok Z k rm Q y b ml rt → Go Z k 0 0 M 0 Ls []) : Met Z y b ml rt rm as M Q := fun l h0 hO => met_of l hT hpl hef hO body
theorem Met.mono {as : List Value} {rm : Room} {Q' : Option Value → Hp → Prop} (h : Met Z y b ml rt rm as M Q) (q : ∀ v M, Q v M → Q' v M) : Met Z y b ml rt rm as M Q' := fun l h0 hO p e ha hc hk s m args below hf happ hP hK => by
  obtain ⟨n, o, h1, h2, h3, v, L, h4, ⟨h5, M', h6, h7⟩, h8⟩ := h l h0 hO p e ha hc hk s m args below hf happ hP hK
  exact ⟨n, o, h1, h2, h3, v, L, h4, ⟨h5, M', q _ _ h6, h7⟩, h8⟩
theorem s_ret (H : Ok Z k R Q y b ml (some ty)) {i : Instr} {w : Value} (hd : decode b pc = .ok (i, 1)) (hn : narrow ty w = w)
    (hi : (i = .ireturn ∧ (ty = .int ∨ ty = .boolean ∨ ty = .byte ∨ ty = .char ∨ ty = .short) ∧ ∃ z, w = .int z) ∨ (i = .lreturn ∧ ty = .long ∧ ∃ z, w = .long z) ∨ (i = .dreturn ∧ ty = .double ∧ ∃ z, w = .double z) ∨ (i = .freturn ∧ ty = .float ∧ ∃ z, w = .float z) ∨ (i = .areturn ∧ ty.isReference = true ∧ w.isRef = true))
    (hc : cn ≤ R.cells) (hs : sn ≤ R.slots) (q : Q (some w) M) : Go Z k cn sn M pc Ls (w :: st) := by
  obtain ⟨p, l, e, R', s, m, args, below, meth, c, Q'⟩ := k
  obtain ⟨hx, hZ, hby, -, -, -, hret, hlk, -, rfl, rfl⟩ := H
  intro T w'
  obtain ⟨locs, X, F, O⟩ := w'
  obtain ⟨fs, hr, hrun, hended, hW, hsame⟩ := X.leave (v := some w) (fun h => by rw [hret] at h; cases h) hlk
  exact ⟨_, _, retOut X hx hret hn hi (hb hby hd) hr, hrun, hended, _, _, rfl, ⟨F, M, q, O⟩, ⟨_, rfl⟩, hW, hsame.mono hc hs⟩
theorem s_iret (H : Ok Z k R Q y b ml (some ty)) {z : Int32} (hd : decode b pc = .ok (.ireturn, 1)) (hn : narrow ty (.int z) = .int z) (ht : ty = .int ∨ ty = .boolean ∨ ty = .byte ∨ ty = .char ∨ ty = .short) (hc : cn ≤ R.cells) (hs : sn ≤ R.slots) (q : Q (some (.int z)) M) : Go Z k cn sn M pc Ls (.int z :: st) := s_ret H hd hn (Or.inl ⟨rfl, ht, z, rfl⟩) hc hs q
theorem s_lret (H : Ok Z k R Q y b ml (some .long)) {z : Int64} (hd : decode b pc = .ok (.lreturn, 1)) (hc : cn ≤ R.cells) (hs : sn ≤ R.slots) (q : Q (some (.long z)) M) : Go Z k cn sn M pc Ls (.long z :: st) := s_ret H hd rfl (Or.inr (Or.inl ⟨rfl, rfl, z, rfl⟩)) hc hs q
theorem s_aret (H : Ok Z k R Q y b ml (some ty)) {a : Addr} (hd : decode b pc = .ok (.areturn, 1)) (hn : narrow ty (.ref a) = .ref a) (ht : ty.isReference = true) (hc : cn ≤ R.cells) (hs : sn ≤ R.slots) (q : Q (some (.ref a)) M) : Go Z k cn sn M pc Ls (.ref a :: st) := s_ret H hd hn (Or.inr (Or.inr (Or.inr (Or.inr ⟨rfl, ht, rfl⟩)))) hc hs q
theorem s_vret (H : Ok Z k R Q y b ml none) (hd : decode b pc = .ok (.return_, 1)) (hc : cn ≤ R.cells) (hs : sn ≤ R.slots) (q : Q none M) : Go Z k cn sn M pc Ls [] := by
  obtain ⟨p, l, e, R', s, m, args, below, meth, c, Q'⟩ := k
  obtain ⟨hx, hZ, hby, -, -, -, hret, hlk, -, rfl, rfl⟩ := H
  intro T w'
  obtain ⟨locs, X, F, O⟩ := w'
  obtain ⟨fs, hr, hrun, hended, hW, hsame⟩ := X.leave (v := none) (fun _ => rfl) hlk
  exact ⟨_, _, X.returnOut hx hret (hb hby hd) hr, hrun, hended, _, _, rfl, ⟨F, M, q, O⟩, ⟨_, rfl⟩, hW, hsame.mono hc hs⟩
theorem s_objinit (H : Ok Z k R Q y b ml rt) {idx : Nat} {a : Addr} (hd : decode b pc = .ok (.invokespecial idx, 3)) (w1 : Jvm.Cond.methodLink y.cls idx Lib.objectInit ∈ tables_1) (w2 : Jvm.Cond.instanceMethod Lib.objectInit ∈ tables_1) (w3 : Jvm.Cond.code Lib.objectInit ⟨#[0xb1]⟩ 1 none ∈ tables_1) (hsz : Ls.size = ml) (hf : 1 ≤ R.frames) (hl : (st.map fun v => v.category).sum + 12 ≤ R.locals) (hp : pc + 3 = pc') (g : Go Z k cn sn M pc' Ls st) : Go Z k cn sn M pc Ls (.ref a :: st) := by
  obtain ⟨p, l, e, R', s, m, args, below, meth, c, Q'⟩ := k
  obtain ⟨hx, hZ, hby, hml, hown, hnm, -, -, ⟨a0, hw⟩, rfl, -⟩ := H
  subst hp
  intro T w
  obtain ⟨locs, X, F, OO⟩ := w
  obtain ⟨T', X', e', sg⟩ := initO X hx hZ hown (hw _ w1) (hw _ w2) (hw _ w3) rfl (g := mkF m pc Ls (.ref a :: st)) rfl (by rw [hml]; exact hsz) rfl (hb hby hd) hf (W := (st.map fun v => v.category).sum) (by show 2 * 0 + _ ≤ _; omega) hl
  obtain ⟨t, o, hs, r⟩ := g T' ⟨_, X', F, e' ▸ OO⟩
  exact ⟨t, o, sg _ hs, r⟩
theorem s_static (H : Ok Z k R Q y b ml rt) {idx cn' sn' : Nat} {y' : MethodName} {b' : ByteArray} {ml' : Nat} {rt' : Option FieldType} {rm : Room} {as rest : List Value} {Q' : Option Value → Hp → Prop} {sig : MethodDescriptor}
    (hM : Met Z y' b' ml' rt' rm as M Q') (hd : decode b pc = .ok (.invokestatic idx, 3)) (w1 : Jvm.Cond.methodLink y.cls idx y' ∈ tables_1) (w2 : Jvm.Cond.static y' ∈ tables_1) (w3 : Jvm.Cond.initialized y'.cls ∈ tables_1) (w4 : Jvm.Cond.code y' b' ml' rt' ∈ tables_1) (hy : y'.cls ≠ "java/lang/invoke/MethodHandle" ∧ y'.cls ≠ "java/lang/invoke/VarHandle")
    (hsig : parseMethodDescriptor y'.desc = some sig) (hlen : as.length = sig.parameters.length) (hst : st = as.reverse ++ rest) (hsz : Ls.size = ml) (hf : rm.frames + 1 ≤ R.frames) (hl : (rest.map fun v => v.category).sum + (ml' + 11) + rm.locals ≤ R.locals) (hc : cn + rm.cells = cn') (hs : sn + rm.slots = sn') (hc' : cn' ≤ R.cells) (hs' : sn' ≤ R.slots) (hp : pc + 3 = pc')
    (g : ∀ v M', Q' v M' → Go Z k cn' sn' M' pc' Ls (v.toList ++ rest)) : Go Z k cn sn M pc Ls st := by
  obtain ⟨p, l, e, R', s, m, args, below, meth, c, Q''⟩ := k
  obtain ⟨hx, hZ, hby, hml, hown, hnm, -, -, ⟨a0, hw⟩, rfl, -⟩ := H
  subst hp hc hs hst
  intro T w
  obtain ⟨locs, X, F, OO⟩ := w
  obtain ⟨v, _, ⟨T', L', k', n'⟩, -, X', ⟨Lc, ⟨hF, M', hQ, hO⟩, q1, q2, q3⟩, sg⟩ := Jvm.LawKit.callS X hx (y := y') hown (mvT hZ (hw _ w1)) (mvT hZ (hw _ w2)) (mvT hZ (hw _ w3)) (mvT hZ (hw _ w4)) hy (backOf (W := (rest.map fun v => v.category).sum) (Q := fun v h L => Fr Z.heap.size L ∧ ∃ M', Q' v M' ∧ Own Z h M') (hM l _ OO) hZ (hw _ w4) (hw _ w3) hf hl) (g := mkF m pc Ls (as.reverse ++ rest)) rfl (by rw [hml]; exact hsz) (argsL := as) (rest := rest) (lenOf (ps := sig.parameters) (r := sig.returnType) hsig hlen) rfl (by show 2 * 0 + _ ≤ _; omega) (hb hby hd) (fun _ _ => ⟨rfl, rfl, hc', hs'⟩)
  dsimp only [Pt.U, Pt.locs, Pt.cells, Pt.slots] at X' q1 q2 q3 sg hO
  subst q1 q2 q3
  obtain ⟨t, o, hs, r⟩ := g v M' hQ T' ⟨_, X', Fr.app F hF, hO⟩
  exact ⟨t, o, sg _ hs, r⟩
theorem s_init (H : Ok Z k R Q y b ml rt) {idx cn' sn' : Nat} {a : Addr} {y' : MethodName} {b' : ByteArray} {ml' : Nat} {rm : Room} {as rest : List Value} {Q' : Option Value → Hp → Prop} {sig : MethodDescriptor}
    (hM : Met Z y' b' ml' none rm (.ref a :: as) M Q') (hd : decode b pc = .ok (.invokespecial idx, 3)) (hy1 : y'.name = "<init>") (w1 : Jvm.Cond.methodLink y.cls idx y' ∈ tables_1) (w2 : Jvm.Cond.instanceMethod y' ∈ tables_1) (w3 : Jvm.Cond.initialized y'.cls ∈ tables_1) (w4 : Jvm.Cond.code y' b' ml' none ∈ tables_1) (hy : y'.cls ≠ "java/lang/invoke/MethodHandle" ∧ y'.cls ≠ "java/lang/invoke/VarHandle")
    (hsig : parseMethodDescriptor y'.desc = some sig) (hlen : as.length = sig.parameters.length) (hst : st = as.reverse ++ .ref a :: rest) (hsz : Ls.size = ml) (hf : rm.frames + 1 ≤ R.frames) (hl : (rest.map fun v => v.category).sum + (ml' + 11) + rm.locals ≤ R.locals) (hc : cn + rm.cells = cn') (hs : sn + rm.slots = sn') (hc' : cn' ≤ R.cells) (hs' : sn' ≤ R.slots) (hp : pc + 3 = pc')
    (g : ∀ v M', Q' v M' → Go Z k cn' sn' M' pc' Ls (v.toList ++ rest)) : Go Z k cn sn M pc Ls st := by
  obtain ⟨p, l, e, R', s, m, args, below, meth, c, Q''⟩ := k
  obtain ⟨hx, hZ, hby, hml, hown, hnm, -, -, ⟨a0, hw⟩, rfl, -⟩ := H
  subst hp hc hs hst
  intro T w
  obtain ⟨locs, X, F, OO⟩ := w
  obtain ⟨v, _, ⟨T', L', k', n'⟩, -, X', ⟨Lc, ⟨hF, M', hQ, hO⟩, q1, q2, q3⟩, sg⟩ := X.specialBack hx (y := y') hy1 hown (mvT hZ (hw _ w1)) (mvT hZ (hw _ w2)) (mvT hZ (hw _ w4)) hy (backOf (W := (rest.map fun v => v.category).sum) (Q := fun v h L => Fr Z.heap.size L ∧ ∃ M', Q' v M' ∧ Own Z h M') (hM l _ OO) hZ (hw _ w4) (hw _ w3) hf hl) (g := mkF m pc Ls (as.reverse ++ .ref a :: rest)) rfl (by rw [hml]; exact hsz) (Steps.refl _) (a := a) (argsL := as) (rest := rest) (lenOf (ps := sig.parameters) (r := sig.returnType) hsig hlen) rfl (by show 2 * 0 + _ ≤ _; omega) (hb hby hd) (fun _ _ => ⟨rfl, rfl, hc', hs'⟩)
  dsimp only [Pt.U, Pt.locs, Pt.cells, Pt.slots] at X' q1 q2 q3 sg hO
  subst q1 q2 q3
  obtain ⟨t, o, hs, r⟩ := g v M' hQ T' ⟨_, X', Fr.app F hF, hO⟩
  exact ⟨t, o, sg.trans hs, r⟩
theorem s_virtual (H : Ok Z k R Q y b ml rt) {i idx cn' sn' : Nat} {a : Addr} {C : String} {fs : List Fd} {y' : MethodName} {b' : ByteArray} {ml' : Nat} {rt' : Option FieldType} {rm : Room} {as rest : List Value} {Q' : Option Value → Hp → Prop} {sig : MethodDescriptor}
    (hM : Met Z y' b' ml' rt' rm (.ref a :: as) M Q') (hd : decode b pc = .ok (.invokevirtual idx, 3)) (hi : M[i]? = some (a, Obj Z C fs)) (w1 : Jvm.Cond.methodLink y.cls idx y' ∈ tables_1) (w2 : Jvm.Cond.declares y' ∈ tables_1) (w5 : Jvm.Cond.selects C y' y' ∈ tables_1) (w6 : Jvm.Cond.instanceMethod y' ∈ tables_1) (w3 : Jvm.Cond.initialized y'.cls ∈ tables_1) (w4 : Jvm.Cond.code y' b' ml' rt' ∈ tables_1) (hy : y'.cls ≠ "java/lang/invoke/MethodHandle" ∧ y'.cls ≠ "java/lang/invoke/VarHandle")
    (hsig : parseMethodDescriptor y'.desc = some sig) (hlen : as.length = sig.parameters.length) (hst : st = as.reverse ++ .ref a :: rest) (hsz : Ls.size = ml) (hf : rm.frames + 1 ≤ R.frames) (hl : (rest.map fun v => v.category).sum + (ml' + 11) + rm.locals ≤ R.locals) (hc : cn + rm.cells = cn') (hs : sn + rm.slots = sn') (hc' : cn' ≤ R.cells) (hs' : sn' ≤ R.slots) (hp : pc + 3 = pc')
    (g : ∀ v M', Q' v M' → Go Z k cn' sn' M' pc' Ls (v.toList ++ rest)) : Go Z k cn sn M pc Ls st := by
  obtain ⟨p, l, e, R', s, m, args, below, meth, c, Q''⟩ := k
  obtain ⟨hx, hZ, hby, hml, hown, hnm, -, -, ⟨a0, hw⟩, rfl, -⟩ := H
  subst hp hc hs hst
  intro T w
  obtain ⟨locs, X, F, OO⟩ := w
  obtain ⟨-, cl, c1, c2⟩ := OO.2.1 i _ hi
  obtain ⟨cq, kq, qa, qb, qc⟩ := isOf hZ rfl (c2.1 _ _ c1).1
  obtain ⟨v, _, ⟨T', L', k', n'⟩, -, X', ⟨Lc, ⟨hF, M', hQ, hO⟩, q1, q2, q3⟩, sg⟩ := X.virtualBack hx (y := y') (z := y') hown (mvT hZ (hw _ w1)) (mvT hZ (hw _ w2)) (notFace_of_selects (args := #[]) (mvT hZ (hw _ w5))) (mvT hZ (hw _ w5)) (mvT hZ (hw _ w6)) hy (backOf (W := (rest.map fun v => v.category).sum) (Q := fun v h L => Fr Z.heap.size L ∧ ∃ M', Q' v M' ∧ Own Z h M') (hM l _ OO) hZ (hw _ w4) (hw _ w3) hf hl) qa qc (g := mkF m pc Ls (as.reverse ++ .ref a :: rest)) rfl (by rw [hml]; exact hsz) (Steps.refl _) (argsL := as) (rest := rest) (lenOf (ps := sig.parameters) (r := sig.returnType) hsig hlen) rfl (by show 2 * 0 + _ ≤ _; omega) (hb hby hd) (fun _ _ => ⟨rfl, rfl, hc', hs'⟩)
  dsimp only [Pt.U, Pt.locs, Pt.cells, Pt.slots] at X' q1 q2 q3 sg hO
  subst q1 q2 q3
  obtain ⟨t, o, hs, r⟩ := g v M' hQ T' ⟨_, X', Fr.app F hF, hO⟩
  exact ⟨t, o, sg.trans hs, r⟩
theorem s_priv (H : Ok Z k R Q y b ml rt) {i idx cn' sn' : Nat} {a : Addr} {C : String} {fs : List Fd} {y' y0 : MethodName} {b' : ByteArray} {ml' : Nat} {rt' : Option FieldType} {rm : Room} {as rest : List Value} {Q' : Option Value → Hp → Prop} {sig : MethodDescriptor}
    (hM : Met Z y' b' ml' rt' rm (.ref a :: as) M Q') (hd : decode b pc = .ok (.invokevirtual idx, 3)) (hi : M[i]? = some (a, Obj Z C fs)) (w1 : Jvm.Cond.methodLink y.cls idx y' ∈ tables_1) (w2 : Jvm.Cond.privateMethod y' ∈ tables_1) (w5 : Jvm.Cond.selects y'.cls y0 y0 ∈ tables_1) (h0 : y0.cls = y'.cls) (w6 : Jvm.Cond.instanceMethod y' ∈ tables_1) (w3 : Jvm.Cond.initialized y'.cls ∈ tables_1) (w4 : Jvm.Cond.code y' b' ml' rt' ∈ tables_1) (hy : y'.cls ≠ "java/lang/invoke/MethodHandle" ∧ y'.cls ≠ "java/lang/invoke/VarHandle")
    (hsig : parseMethodDescriptor y'.desc = some sig) (hlen : as.length = sig.parameters.length) (hst : st = as.reverse ++ .ref a :: rest) (hsz : Ls.size = ml) (hf : rm.frames + 1 ≤ R.frames) (hl : (rest.map fun v => v.category).sum + (ml' + 11) + rm.locals ≤ R.locals) (hc : cn + rm.cells = cn') (hs : sn + rm.slots = sn') (hc' : cn' ≤ R.cells) (hs' : sn' ≤ R.slots) (hp : pc + 3 = pc')
    (g : ∀ v M', Q' v M' → Go Z k cn' sn' M' pc' Ls (v.toList ++ rest)) : Go Z k cn sn M pc Ls st := by
  obtain ⟨p, l, e, R', s, m, args, below, meth, c, Q''⟩ := k
  obtain ⟨hx, hZ, hby, hml, hown, hnm, -, -, ⟨a0, hw⟩, rfl, -⟩ := H
  subst hp hc hs hst
  intro T w
  obtain ⟨locs, X, F, OO⟩ := w
  obtain ⟨-, cl, c1, c2⟩ := OO.2.1 i _ hi
  obtain ⟨cl', d1, d2⟩ := (c2.1 _ _ c1).1.cell
  have hpriv : s.PrivateAt y' := Cond.privateMethod_at (mvP hZ (hw _ w2) (args := #[]))
  obtain ⟨mk, mM, hn, hm, hst, hab⟩ := Cond.instanceMethod_spec (mvT (args := #[]) hZ (hw _ w6))
  obtain ⟨c3, r3, m3, -, -, n3, -, kP, hk, hkI⟩ := Cond.selects_spec (mvT (args := #[]) hZ (hw _ w5))
  have e3 : m3.cls = mk.cls := by
    have u1 := findClass_of_methodNamed n3
    have u2 := findClass_of_methodNamed hn
    rw [h0, u2] at u1; exact (Option.some.inj u1).symm
  rw [e3] at hk
  obtain ⟨mM', cM, hm2, -, -, -, -, -, -, hsg⟩ := Cond.code_spec hn (mvT (args := #[]) hZ (hw _ w4))
  cases hm.symm.trans hm2
  obtain ⟨vm₁, X₁, st₁⟩ := X.invokevirtual hx hown (mvT hZ (hw _ w1)) hn hm hst hk hkI hy (a := a) d1 d2 (selectMethod_private hm (hpriv mk _ hn hm)) hm hab hk hkI (g := mkF m pc Ls (as.reverse ++ .ref a :: rest)) rfl (argsL := as) (rest := rest) (lenOf (ps := sig.parameters) (r := sig.returnType) hsig hlen _ hsg) rfl (hb hby hd)
  have hK := backOf (l := l) (p := p) (e := e) (below := below) (R := R') (args := args) (len := 3) (W := (rest.map fun v => v.category).sum) (Q := fun v h L => Fr Z.heap.size L ∧ ∃ M', Q' v M' ∧ Own Z h M') (hM l _ OO) hZ (hw _ w4) (hw _ w3) hf hl
  obtain ⟨v, ⟨T', L', k', n'⟩, X', ⟨Lc, ⟨hF, M', hQ, hO⟩, q1, q2, q3⟩, sg⟩ := hK m meth c ⟨T.setVm vm₁, locs, cn, sn⟩ (mkF m pc Ls rest) (.invokevirtual idx) mk (.ref a :: as).toArray X₁ rfl (by rw [hml]; exact hsz) (hb hby hd) (by show 2 * 0 + (rest.map fun v => v.category).sum ≤ _; omega) (X₁.named hn) ⟨rfl, rfl, hc', hs'⟩
  dsimp only [Pt.U, Pt.locs, Pt.cells, Pt.slots] at X' q1 q2 q3 sg hO
  subst q1 q2 q3
  obtain ⟨t, o, hs, r⟩ := g v M' hQ T' ⟨_, X', Fr.app F hF, hO⟩
  exact ⟨t, o, st₁ _ (fun acts => by rw [doInvoke_state]; exact sg.trans hs), r⟩
end Kit
theorem own_nat {m : Nat} (h : m < 2147483648) : m.toInt32.toNatClampNeg = m ∧ ¬ m.toInt32 < 0 ∧ m.toInt32.toInt = m := by
  have e : m.toInt32.toInt = m := Int32.toInt_ofNat_small (by omega)
  refine ⟨?_, ?_, e⟩
  · show m.toInt32.toInt.toNat = m
    rw [e]; rfl
  · rw [Int32.lt_iff_toInt_lt, e, show (0 : Int32).toInt = 0 from by decide]; omega
theorem own_lt {m n : Nat} (h : m < 2147483648) (h' : n < 2147483648) : m.toInt32 < n.toInt32 ↔ m < n := by rw [Int32.lt_iff_toInt_lt, (own_nat h).2.2, (own_nat h').2.2]; omega
theorem own_le {m n : Nat} (h : m < 2147483648) (h' : n < 2147483648) : m.toInt32 ≤ n.toInt32 ↔ m ≤ n := by rw [Int32.le_iff_toInt_le, (own_nat h).2.2, (own_nat h').2.2]; omega
theorem own_succ (m : Nat) : m.toInt32 + 1 = (m + 1).toInt32 := by
  show Int32.ofNat m + Int32.ofNat 1 = Int32.ofNat (m + 1)
  rw [← Int32.ofNat_add]
theorem allN {α : Type} {P : α → Prop} : ∀ x ∈ ([] : List α), P x := fun _ q => nomatch q
theorem allC {α : Type} {P : α → Prop} {z : α} {L : List α} (q : P z) (r : ∀ x ∈ L, P x) : ∀ x ∈ z :: L, P x := fun x h => (List.mem_cons.mp h).elim (fun u => u ▸ q) (r x)
abbrev y_1 : MethodName := ⟨"com/example/thorough_paths/thoroughpaths/service/Marks", "<init>", "(I)V"⟩
theorem d1_0 : decode prog_96_method_1_code 0 = .ok (.aload_n 0, 1) := by decide +kernel
theorem d1_1 : decode prog_96_method_1_code 1 = .ok (.invokespecial 1, 3) := by decide +kernel
theorem d1_4 : decode prog_96_method_1_code 4 = .ok (.aload_n 0, 1) := by decide +kernel
theorem d1_5 : decode prog_96_method_1_code 5 = .ok (.iload_n 1, 1) := by decide +kernel
theorem d1_6 : decode prog_96_method_1_code 6 = .ok (.bipush 63, 2) := by decide +kernel
theorem d1_8 : decode prog_96_method_1_code 8 = .ok (.iadd, 1) := by decide +kernel
theorem d1_9 : decode prog_96_method_1_code 9 = .ok (.bipush 6, 2) := by decide +kernel
theorem d1_11 : decode prog_96_method_1_code 11 = .ok (.iushr, 1) := by decide +kernel
theorem d1_12 : decode prog_96_method_1_code 12 = .ok (.newarray .long, 2) := by decide +kernel
theorem d1_14 : decode prog_96_method_1_code 14 = .ok (.putfield 7, 3) := by decide +kernel
theorem d1_17 : decode prog_96_method_1_code 17 = .ok (.return_, 1) := by decide +kernel
theorem pl_1 : plainFor y_1 = true := plainFor_of_name (by first | (simp [plainName, overriddenIn]; done) | decide +kernel)
theorem pd_1 : parseMethodDescriptor "(I)V" = some ⟨[.int], none⟩ := by decide +kernel
abbrev y_3 : MethodName := ⟨"com/example/thorough_paths/thoroughpaths/service/Marks", "set", "(I)V"⟩
theorem d3_0 : decode prog_96_method_3_code 0 = .ok (.aload_n 0, 1) := by decide +kernel
theorem d3_1 : decode prog_96_method_3_code 1 = .ok (.getfield 7, 3) := by decide +kernel
theorem d3_4 : decode prog_96_method_3_code 4 = .ok (.iload_n 1, 1) := by decide +kernel
theorem d3_5 : decode prog_96_method_3_code 5 = .ok (.bipush 6, 2) := by decide +kernel
theorem d3_7 : decode prog_96_method_3_code 7 = .ok (.iushr, 1) := by decide +kernel
theorem d3_8 : decode prog_96_method_3_code 8 = .ok (.dup2, 1) := by decide +kernel
theorem d3_9 : decode prog_96_method_3_code 9 = .ok (.laload, 1) := by decide +kernel
theorem d3_10 : decode prog_96_method_3_code 10 = .ok (.lconst 1, 1) := by decide +kernel
theorem d3_11 : decode prog_96_method_3_code 11 = .ok (.iload_n 1, 1) := by decide +kernel
theorem d3_12 : decode prog_96_method_3_code 12 = .ok (.lshl, 1) := by decide +kernel
theorem d3_13 : decode prog_96_method_3_code 13 = .ok (.lor, 1) := by decide +kernel
theorem d3_14 : decode prog_96_method_3_code 14 = .ok (.lastore, 1) := by decide +kernel
theorem d3_15 : decode prog_96_method_3_code 15 = .ok (.return_, 1) := by decide +kernel
theorem pl_3 : plainFor y_3 = true := plainFor_of_name (by first | (simp [plainName, overriddenIn]; done) | decide +kernel)
theorem pd_3 : parseMethodDescriptor "(I)V" = some ⟨[.int], none⟩ := by decide +kernel
abbrev y_4 : MethodName := ⟨"com/example/thorough_paths/thoroughpaths/service/Marks", "set", "(II)V"⟩
theorem d4_0 : decode prog_96_method_5_code 0 = .ok (.iload_n 1, 1) := by decide +kernel
theorem d4_1 : decode prog_96_method_5_code 1 = .ok (.iload_n 2, 1) := by decide +kernel
theorem d4_2 : decode prog_96_method_5_code 2 = .ok (.if_icmp .lt 4, 3) := by decide +kernel
theorem d4_5 : decode prog_96_method_5_code 5 = .ok (.return_, 1) := by decide +kernel
theorem d4_6 : decode prog_96_method_5_code 6 = .ok (.iload_n 1, 1) := by decide +kernel
theorem d4_7 : decode prog_96_method_5_code 7 = .ok (.bipush 6, 2) := by decide +kernel
theorem d4_9 : decode prog_96_method_5_code 9 = .ok (.iushr, 1) := by decide +kernel
theorem d4_10 : decode prog_96_method_5_code 10 = .ok (.istore_n 3, 1) := by decide +kernel
theorem d4_11 : decode prog_96_method_5_code 11 = .ok (.iload_n 2, 1) := by decide +kernel
theorem d4_12 : decode prog_96_method_5_code 12 = .ok (.iconst 1, 1) := by decide +kernel
theorem d4_13 : decode prog_96_method_5_code 13 = .ok (.isub, 1) := by decide +kernel
theorem d4_14 : decode prog_96_method_5_code 14 = .ok (.bipush 6, 2) := by decide +kernel
theorem d4_16 : decode prog_96_method_5_code 16 = .ok (.iushr, 1) := by decide +kernel
theorem d4_17 : decode prog_96_method_5_code 17 = .ok (.istore 4, 2) := by decide +kernel
theorem d4_19 : decode prog_96_method_5_code 19 = .ok (.ldc2_w 13, 3) := by decide +kernel
theorem d4_22 : decode prog_96_method_5_code 22 = .ok (.iload_n 1, 1) := by decide +kernel
theorem d4_23 : decode prog_96_method_5_code 23 = .ok (.lshl, 1) := by decide +kernel
theorem d4_24 : decode prog_96_method_5_code 24 = .ok (.lstore 5, 2) := by decide +kernel
theorem d4_26 : decode prog_96_method_5_code 26 = .ok (.ldc2_w 13, 3) := by decide +kernel
theorem d4_29 : decode prog_96_method_5_code 29 = .ok (.iload_n 2, 1) := by decide +kernel
theorem d4_30 : decode prog_96_method_5_code 30 = .ok (.ineg, 1) := by decide +kernel
theorem d4_31 : decode prog_96_method_5_code 31 = .ok (.lushr, 1) := by decide +kernel
theorem d4_32 : decode prog_96_method_5_code 32 = .ok (.lstore 7, 2) := by decide +kernel
theorem d4_34 : decode prog_96_method_5_code 34 = .ok (.iload_n 3, 1) := by decide +kernel
theorem d4_35 : decode prog_96_method_5_code 35 = .ok (.iload 4, 2) := by decide +kernel
theorem d4_37 : decode prog_96_method_5_code 37 = .ok (.if_icmp .ne 18, 3) := by decide +kernel
theorem d4_40 : decode prog_96_method_5_code 40 = .ok (.aload_n 0, 1) := by decide +kernel
theorem d4_41 : decode prog_96_method_5_code 41 = .ok (.getfield 7, 3) := by decide +kernel
theorem d4_44 : decode prog_96_method_5_code 44 = .ok (.iload_n 3, 1) := by decide +kernel
theorem d4_45 : decode prog_96_method_5_code 45 = .ok (.dup2, 1) := by decide +kernel
theorem d4_46 : decode prog_96_method_5_code 46 = .ok (.laload, 1) := by decide +kernel
theorem d4_47 : decode prog_96_method_5_code 47 = .ok (.lload 5, 2) := by decide +kernel
theorem d4_49 : decode prog_96_method_5_code 49 = .ok (.lload 7, 2) := by decide +kernel
theorem d4_51 : decode prog_96_method_5_code 51 = .ok (.land, 1) := by decide +kernel
theorem d4_52 : decode prog_96_method_5_code 52 = .ok (.lor, 1) := by decide +kernel
theorem d4_53 : decode prog_96_method_5_code 53 = .ok (.lastore, 1) := by decide +kernel
theorem d4_54 : decode prog_96_method_5_code 54 = .ok (.return_, 1) := by decide +kernel
theorem d4_55 : decode prog_96_method_5_code 55 = .ok (.aload_n 0, 1) := by decide +kernel
theorem d4_56 : decode prog_96_method_5_code 56 = .ok (.getfield 7, 3) := by decide +kernel
theorem d4_59 : decode prog_96_method_5_code 59 = .ok (.iload_n 3, 1) := by decide +kernel
theorem d4_60 : decode prog_96_method_5_code 60 = .ok (.dup2, 1) := by decide +kernel
theorem d4_61 : decode prog_96_method_5_code 61 = .ok (.laload, 1) := by decide +kernel
theorem d4_62 : decode prog_96_method_5_code 62 = .ok (.lload 5, 2) := by decide +kernel
theorem d4_64 : decode prog_96_method_5_code 64 = .ok (.lor, 1) := by decide +kernel
theorem d4_65 : decode prog_96_method_5_code 65 = .ok (.lastore, 1) := by decide +kernel
theorem d4_66 : decode prog_96_method_5_code 66 = .ok (.iload_n 3, 1) := by decide +kernel
theorem d4_67 : decode prog_96_method_5_code 67 = .ok (.iconst 1, 1) := by decide +kernel
theorem d4_68 : decode prog_96_method_5_code 68 = .ok (.iadd, 1) := by decide +kernel
theorem d4_69 : decode prog_96_method_5_code 69 = .ok (.istore 9, 2) := by decide +kernel
theorem d4_71 : decode prog_96_method_5_code 71 = .ok (.iload 9, 2) := by decide +kernel
theorem d4_73 : decode prog_96_method_5_code 73 = .ok (.iload 4, 2) := by decide +kernel
theorem d4_75 : decode prog_96_method_5_code 75 = .ok (.if_icmp .ge 19, 3) := by decide +kernel
theorem d4_78 : decode prog_96_method_5_code 78 = .ok (.aload_n 0, 1) := by decide +kernel
theorem d4_79 : decode prog_96_method_5_code 79 = .ok (.getfield 7, 3) := by decide +kernel
theorem d4_82 : decode prog_96_method_5_code 82 = .ok (.iload 9, 2) := by decide +kernel
theorem d4_84 : decode prog_96_method_5_code 84 = .ok (.ldc2_w 13, 3) := by decide +kernel
theorem d4_87 : decode prog_96_method_5_code 87 = .ok (.lastore, 1) := by decide +kernel
theorem d4_88 : decode prog_96_method_5_code 88 = .ok (.iinc 9 1, 3) := by decide +kernel
theorem d4_91 : decode prog_96_method_5_code 91 = .ok (.goto (-20), 3) := by decide +kernel
theorem d4_94 : decode prog_96_method_5_code 94 = .ok (.aload_n 0, 1) := by decide +kernel
theorem d4_95 : decode prog_96_method_5_code 95 = .ok (.getfield 7, 3) := by decide +kernel
theorem d4_98 : decode prog_96_method_5_code 98 = .ok (.iload 4, 2) := by decide +kernel
theorem d4_100 : decode prog_96_method_5_code 100 = .ok (.dup2, 1) := by decide +kernel
theorem d4_101 : decode prog_96_method_5_code 101 = .ok (.laload, 1) := by decide +kernel
theorem d4_102 : decode prog_96_method_5_code 102 = .ok (.lload 7, 2) := by decide +kernel
theorem d4_104 : decode prog_96_method_5_code 104 = .ok (.lor, 1) := by decide +kernel
theorem d4_105 : decode prog_96_method_5_code 105 = .ok (.lastore, 1) := by decide +kernel
theorem d4_106 : decode prog_96_method_5_code 106 = .ok (.return_, 1) := by decide +kernel
theorem pl_4 : plainFor y_4 = true := plainFor_of_name (by first | (simp [plainName, overriddenIn]; done) | decide +kernel)
theorem pd_4 : parseMethodDescriptor "(II)V" = some ⟨[.int, .int], none⟩ := by decide +kernel
abbrev y_5 : MethodName := ⟨"com/example/thorough_paths/thoroughpaths/service/Marks", "get", "(I)Z"⟩
theorem d5_0 : decode prog_96_method_2_code 0 = .ok (.aload_n 0, 1) := by decide +kernel
theorem d5_1 : decode prog_96_method_2_code 1 = .ok (.getfield 7, 3) := by decide +kernel
theorem d5_4 : decode prog_96_method_2_code 4 = .ok (.iload_n 1, 1) := by decide +kernel
theorem d5_5 : decode prog_96_method_2_code 5 = .ok (.bipush 6, 2) := by decide +kernel
theorem d5_7 : decode prog_96_method_2_code 7 = .ok (.iushr, 1) := by decide +kernel
theorem d5_8 : decode prog_96_method_2_code 8 = .ok (.laload, 1) := by decide +kernel
theorem d5_9 : decode prog_96_method_2_code 9 = .ok (.lconst 1, 1) := by decide +kernel
theorem d5_10 : decode prog_96_method_2_code 10 = .ok (.iload_n 1, 1) := by decide +kernel
theorem d5_11 : decode prog_96_method_2_code 11 = .ok (.lshl, 1) := by decide +kernel
theorem d5_12 : decode prog_96_method_2_code 12 = .ok (.land, 1) := by decide +kernel
theorem d5_13 : decode prog_96_method_2_code 13 = .ok (.lconst 0, 1) := by decide +kernel
theorem d5_14 : decode prog_96_method_2_code 14 = .ok (.lcmp, 1) := by decide +kernel
theorem d5_15 : decode prog_96_method_2_code 15 = .ok (.ifCond .eq 7, 3) := by decide +kernel
theorem d5_18 : decode prog_96_method_2_code 18 = .ok (.iconst 1, 1) := by decide +kernel
theorem d5_19 : decode prog_96_method_2_code 19 = .ok (.goto 4, 3) := by decide +kernel
theorem d5_22 : decode prog_96_method_2_code 22 = .ok (.iconst 0, 1) := by decide +kernel
theorem d5_23 : decode prog_96_method_2_code 23 = .ok (.ireturn, 1) := by decide +kernel
theorem pl_5 : plainFor y_5 = true := plainFor_of_name (by first | (simp [plainName, overriddenIn]; done) | decide +kernel)
theorem pd_5 : parseMethodDescriptor "(I)Z" = some ⟨[.int], some .boolean⟩ := by decide +kernel
def LQ : Option Value → Hp → Prop := fun v _ => v = some (.int 1)
def gb (ws : List Int64) (q : Nat) : Bool := (ws.getD (q / 64) 0).toBitVec.getLsbD (q % 64)
theorem marks_inj {m n : Nat} (h : m < 2147483648) (h' : n < 2147483648) : m.toInt32 = n.toInt32 ↔ m = n := ⟨fun e => by have := congrArg Int32.toInt e; rw [(own_nat h).2.2, (own_nat h').2.2] at this; omega, fun e => by rw [e]⟩
theorem own_q6 {n : Nat} (h : n < 2147483648) : ((n.toInt32.toUInt32 >>> ((6 : Int32) &&& 31).toUInt32).toInt32) = (n / 64).toInt32 := by
  apply Int32.toInt_inj.mp
  rw [c_iushr n.toInt32 6 6 (by decide) (by decide), (own_nat h).2.2, (own_nat (by omega)).2.2]
  omega
theorem own_amt {n : Nat} (h : n < 2147483648) : (((n.toInt32 &&& 0x3f).toInt64).toBitVec.smod 64).toNat = n % 64 := by
  have hk : n.toInt32.toBitVec.toNat % 64 = n % 64 := by
    show (BitVec.ofNat 32 n).toNat % 64 = n % 64
    rw [BitVec.toNat_ofNat]; omega
  obtain ⟨e1, e2⟩ := sm64 n.toInt32 (n % 64) hk
  rw [e1]; exact smod64 _ e2
theorem own_shl {x : Int64} {n : Nat} (h : n < 2147483648) : (x <<< (n.toInt32 &&& 0x3f).toInt64).toBitVec = x.toBitVec <<< (n % 64) := by
  show x.toBitVec <<< (((n.toInt32 &&& 0x3f).toInt64).toBitVec.smod 64) = _
  rw [BitVec.shiftLeft_eq', own_amt h]
theorem own_bit {n i : Nat} (h : n < 2147483648) (hi : i < 64) : ((1 : Int64) <<< (n.toInt32 &&& 0x3f).toInt64).toBitVec.getLsbD i = decide (i = n % 64) := by
  rw [own_shl h]
  show (1#64 <<< (n % 64)).getLsbD i = _
  rw [BitVec.getLsbD_shiftLeft]
  by_cases e : i = n % 64
  · subst e; simp [hi]
  · by_cases lt : i < n % 64
    · simp [lt, e]
    · have : i - n % 64 ≠ 0 := by omega
      simp [hi, lt, e, BitVec.getLsbD_one, this]
theorem gb_set {ws : List Int64} {n q : Nat} {f : BitVec 64 → BitVec 64} {x : Int64} (hn : n / 64 < ws.length) (hq : q / 64 < ws.length) : gb (ws.set (n / 64) x) q = if q / 64 = n / 64 then x.toBitVec.getLsbD (q % 64) else gb ws q := by
  unfold gb
  by_cases e : q / 64 = n / 64
  · simp [e, hn]
  · rw [if_neg e, List.getD_eq_getElem?_getD, List.getElem?_set_ne (Ne.symm e), ← List.getD_eq_getElem?_getD]
theorem gb_or {ws : List Int64} {n q : Nat} (h : n < 2147483648) (hn : n / 64 < ws.length) (hq : q / 64 < ws.length) : gb (ws.set (n / 64) (ws.getD (n / 64) 0 ||| ((1 : Int64) <<< (n.toInt32 &&& 0x3f).toInt64))) q = (gb ws q || decide (q = n)) := by
  rw [gb_set (f := id) hn hq]
  by_cases e : q / 64 = n / 64
  · rw [if_pos e]
    show ((ws.getD (n / 64) 0).toBitVec ||| ((1 : Int64) <<< (n.toInt32 &&& 0x3f).toInt64).toBitVec).getLsbD (q % 64) = _
    rw [BitVec.getLsbD_or, own_bit h (by omega)]
    unfold gb
    rw [e]
    have : (q % 64 = n % 64) ↔ q = n := by omega
    simp [this]
  · rw [if_neg e]
    have : ¬ q = n := fun r => e (by rw [r])
    simp [this]
theorem gb_clr {ws : List Int64} {n q : Nat} (h : n < 2147483648) (hn : n / 64 < ws.length) (hq : q / 64 < ws.length) : gb (ws.set (n / 64) (ws.getD (n / 64) 0 &&& (((1 : Int64) <<< (n.toInt32 &&& 0x3f).toInt64) ^^^ (-1 : Int64)))) q = (gb ws q && !decide (q = n)) := by
  rw [gb_set (f := id) hn hq]
  by_cases e : q / 64 = n / 64
  · rw [if_pos e]
    show ((ws.getD (n / 64) 0).toBitVec &&& (((1 : Int64) <<< (n.toInt32 &&& 0x3f).toInt64).toBitVec ^^^ (-1 : Int64).toBitVec)).getLsbD (q % 64) = _
    rw [BitVec.getLsbD_and, BitVec.getLsbD_xor, own_bit h (by omega)]
    unfold gb
    rw [e]
    have h1 : (-1 : Int64).toBitVec.getLsbD (q % 64) = true := by
      show (BitVec.allOnes 64).getLsbD (q % 64) = true
      rw [BitVec.getLsbD_allOnes]; simp; omega
    have : (q % 64 = n % 64) ↔ q = n := by omega
    rw [h1]; simp [this]
  · rw [if_neg e]
    have : ¬ q = n := fun r => e (by rw [r])
    simp [this]
theorem gb_and {ws : List Int64} {n : Nat} (h : n < 2147483648) : ¬ (ws.getD (n / 64) 0 &&& ((1 : Int64) <<< (n.toInt32 &&& 0x3f).toInt64)) = 0 ↔ gb ws n = true := by
  have key : ∀ i, i < 64 → (ws.getD (n / 64) 0 &&& ((1 : Int64) <<< (n.toInt32 &&& 0x3f).toInt64)).toBitVec.getLsbD i = ((ws.getD (n / 64) 0).toBitVec.getLsbD i && decide (i = n % 64)) := fun i hi => by
    show ((ws.getD (n / 64) 0).toBitVec &&& ((1 : Int64) <<< (n.toInt32 &&& 0x3f).toInt64).toBitVec).getLsbD i = _
    rw [BitVec.getLsbD_and, own_bit h hi]
  constructor
  · intro q
    cases hg : gb ws n with
    | true => rfl
    | false =>
      exfalso; apply q
      apply Int64.toBitVec_inj.mp
      apply BitVec.eq_of_getLsbD_eq
      intro i hi
      rw [key i hi]
      by_cases e : i = n % 64
      · subst e; unfold gb at hg; rw [hg]; simp
      · simp [e]
  · intro q e
    have := key (n % 64) (by omega)
    rw [e] at this
    unfold gb at q
    rw [q] at this
    simp at this
theorem gb_new (n q : Nat) : gb (List.replicate n 0) q = false := by
  unfold gb
  have : (List.replicate n (0 : Int64)).getD (q / 64) 0 = 0 := by
    rw [List.getD_eq_getElem?_getD, List.getElem?_replicate]; split <;> rfl
  rw [this]; simp
theorem getD_some {ws : List Int64} {i : Nat} (h : i < ws.length) : ws[i]? = some (ws.getD i 0) := by
  rw [List.getD_eq_getElem?_getD, List.getElem?_eq_getElem h]; rfl
def b2i (b : Bool) : Int32 := if b then 1 else 0
set_option maxRecDepth 65536 in
set_option maxHeartbeats 40000000 in
theorem met_mi {Z : State} (HT : Tb Z) {F : Hp} (m : Addr) (n : Nat) (hn : n ≤ 256) : Met Z y_1 prog_96_method_1_code 2 none ({ frames := 1, cells := 1, slots := 4, locals := 12 } : Room) [(.ref m), (.int n.toInt32)] ((m, Obj Z "com/example/thorough_paths/thoroughpaths/service/Marks" [("com/example/thorough_paths/thoroughpaths/service/Marks", "words", "[J", .null)]) :: F) (fun v M' => ∃ wa : Addr, v = none ∧ M' = ((wa, ArL Z (List.replicate ((n + 63) / 64) 0)) :: (m, Obj Z "com/example/thorough_paths/thoroughpaths/service/Marks" [("com/example/thorough_paths/thoroughpaths/service/Marks", "words", "[J", (.ref wa))]) :: F)) := by
  refine Met.of HT pl_1 (Ls := #[.val (.ref m), .val (.int n.toInt32)]) (fun m => by first | (simp [entryFrame, mkF, argsToLocals, Value.category]; done) | rfl) (fun k H => ?_)
  refine s_aloadn H d1_0 rfl rfl (pc' := 1) rfl ?_
  refine s_objinit H d1_1 (mem (i := 7) rfl) (mem (i := 8) rfl) (mem (i := 9) rfl) rfl (by decide) (Nat.le_of_ble_eq_true rfl) (pc' := 4) rfl ?_
  refine s_aloadn H d1_4 rfl rfl (pc' := 5) rfl ?_
  refine s_iloadn H d1_5 rfl (pc' := 6) rfl ?_
  refine s_bipush H d1_6 (z := (63 : Int32)) (by decide) (pc' := 8) rfl ?_
  refine s_iadd H d1_8 (pc' := 9) rfl ?_
  refine s_bipush H d1_9 (z := (6 : Int32)) (by decide) (pc' := 11) rfl ?_
  refine s_iushr H d1_11 (pc' := 12) rfl ?_
  have e63 : n.toInt32 + 63 = (n + 63).toInt32 := (Int32.ofNat_add n 63).symm
  rw [e63, own_q6 (by omega)]
  refine s_newarr_long H d1_12 (mem (i := 10) rfl) (own_nat (by omega)).2.1 (cap := 4) (by rw [(own_nat (by omega)).1]; omega) (by decide) (cn' := 1) (sn' := 4) rfl rfl (by decide) (by decide) (pc' := 14) rfl (fun wa => ?_)
  rw [(own_nat (by omega)).1]
  show Go Z k 1 4 ((wa, ArL Z (List.replicate ((n + 63) / 64) 0)) :: (m, Obj Z "com/example/thorough_paths/thoroughpaths/service/Marks" [("com/example/thorough_paths/thoroughpaths/service/Marks", "words", "[J", .null)]) :: F) 14 #[.val (.ref m), .val (.int n.toInt32)] [(.ref wa), (.ref m)]
  refine s_putf H d1_14 (mem (i := 11) rfl) (Or.inr ⟨(mem (i := 12) rfl), rfl, rfl⟩) (mem (i := 2) rfl) (ty := (.array .long)) (by decide) rfl rfl (i := 1) (j := 0) rfl rfl (pc' := 17) rfl ?_
  show Go Z k 1 4 ((wa, ArL Z (List.replicate ((n + 63) / 64) 0)) :: (m, Obj Z "com/example/thorough_paths/thoroughpaths/service/Marks" [("com/example/thorough_paths/thoroughpaths/service/Marks", "words", "[J", (.ref wa))]) :: F) 17 #[.val (.ref m), .val (.int n.toInt32)] []
  exact s_vret H d1_17 (by decide) (by decide) (⟨wa, rfl, rfl⟩)
set_option maxRecDepth 65536 in
set_option maxHeartbeats 40000000 in
theorem met_ms {Z : State} (HT : Tb Z) {F : Hp} (m wa : Addr) (ws : List Int64) (n : Nat) (hn : n < 2147483648) (hl : n / 64 < ws.length) : Met Z y_3 prog_96_method_3_code 2 none ({ frames := 0, cells := 0, slots := 0, locals := 0 } : Room) [(.ref m), (.int n.toInt32)] ((wa, ArL Z ws) :: (m, Obj Z "com/example/thorough_paths/thoroughpaths/service/Marks" [("com/example/thorough_paths/thoroughpaths/service/Marks", "words", "[J", (.ref wa))]) :: F) (fun v M' => ∃ ws' : List Int64, ws'.length = ws.length ∧ (∀ q, q / 64 < ws.length → gb ws' q = (gb ws q || decide (q = n))) ∧ v = none ∧ M' = ((wa, ArL Z ws') :: (m, Obj Z "com/example/thorough_paths/thoroughpaths/service/Marks" [("com/example/thorough_paths/thoroughpaths/service/Marks", "words", "[J", (.ref wa))]) :: F)) := by
  refine Met.of HT pl_3 (Ls := #[.val (.ref m), .val (.int n.toInt32)]) (fun m => by first | (simp [entryFrame, mkF, argsToLocals, Value.category]; done) | rfl) (fun k H => ?_)
  refine s_aloadn H d3_0 rfl rfl (pc' := 1) rfl ?_
  refine s_getf H d3_1 (mem (i := 11) rfl) (i := 1) (j := 0) rfl rfl (pc' := 4) rfl ?_
  refine s_iloadn H d3_4 rfl (pc' := 5) rfl ?_
  refine s_bipush H d3_5 (z := (6 : Int32)) (by decide) (pc' := 7) rfl ?_
  refine s_iushr H d3_7 (pc' := 8) rfl ?_
  refine s_dup2 H d3_8 rfl rfl (pc' := 9) rfl ?_
  refine s_laload H d3_9 (i := 0) rfl (x := (ws.getD (n / 64) 0)) (by rw [own_q6 hn]; exact (own_nat (by omega)).2.1) (jn := (n / 64)) (by rw [own_q6 hn]; exact (own_nat (by omega)).1) (getD_some hl) (pc' := 10) rfl ?_
  refine s_lconst H d3_10 (z := (1 : Int64)) (by decide) (pc' := 11) rfl ?_
  refine s_iloadn H d3_11 rfl (pc' := 12) rfl ?_
  refine s_lshl H d3_12 (pc' := 13) rfl ?_
  refine s_lor H d3_13 (pc' := 14) rfl ?_
  refine s_lastore H d3_14 (i := 0) rfl (by rw [own_q6 hn]; exact (own_nat (by omega)).2.1) (jn := (n / 64)) (by rw [own_q6 hn]; exact (own_nat (by omega)).1) hl (pc' := 15) rfl ?_
  show Go Z k 0 0 ((wa, ArL Z (ws.set (n / 64) ((ws.getD (n / 64) 0) ||| ((1 : Int64) <<< (n.toInt32 &&& 0x3f).toInt64)))) :: (m, Obj Z "com/example/thorough_paths/thoroughpaths/service/Marks" [("com/example/thorough_paths/thoroughpaths/service/Marks", "words", "[J", (.ref wa))]) :: F) 15 #[.val (.ref m), .val (.int n.toInt32)] []
  exact s_vret H d3_15 (by decide) (by decide) (⟨_, List.length_set, fun q hq => gb_or hn hl hq, rfl, rfl⟩)
set_option maxRecDepth 65536 in
set_option maxHeartbeats 40000000 in
theorem met_mg {Z : State} (HT : Tb Z) {F : Hp} (m wa : Addr) (ws : List Int64) (n : Nat) (hn : n < 2147483648) (hl : n / 64 < ws.length) : Met Z y_5 prog_96_method_2_code 2 (some .boolean) ({ frames := 0, cells := 0, slots := 0, locals := 0 } : Room) [(.ref m), (.int n.toInt32)] ((wa, ArL Z ws) :: (m, Obj Z "com/example/thorough_paths/thoroughpaths/service/Marks" [("com/example/thorough_paths/thoroughpaths/service/Marks", "words", "[J", (.ref wa))]) :: F) (fun v M' => v = some (.int (b2i (gb ws n))) ∧ M' = ((wa, ArL Z ws) :: (m, Obj Z "com/example/thorough_paths/thoroughpaths/service/Marks" [("com/example/thorough_paths/thoroughpaths/service/Marks", "words", "[J", (.ref wa))]) :: F)) := by
  refine Met.of HT pl_5 (Ls := #[.val (.ref m), .val (.int n.toInt32)]) (fun m => by first | (simp [entryFrame, mkF, argsToLocals, Value.category]; done) | rfl) (fun k H => ?_)
  refine s_aloadn H d5_0 rfl rfl (pc' := 1) rfl ?_
  refine s_getf H d5_1 (mem (i := 11) rfl) (i := 1) (j := 0) rfl rfl (pc' := 4) rfl ?_
  refine s_iloadn H d5_4 rfl (pc' := 5) rfl ?_
  refine s_bipush H d5_5 (z := (6 : Int32)) (by decide) (pc' := 7) rfl ?_
  refine s_iushr H d5_7 (pc' := 8) rfl ?_
  refine s_laload H d5_8 (i := 0) rfl (x := (ws.getD (n / 64) 0)) (by rw [own_q6 hn]; exact (own_nat (by omega)).2.1) (jn := (n / 64)) (by rw [own_q6 hn]; exact (own_nat (by omega)).1) (getD_some hl) (pc' := 9) rfl ?_
  refine s_lconst H d5_9 (z := (1 : Int64)) (by decide) (pc' := 10) rfl ?_
  refine s_iloadn H d5_10 rfl (pc' := 11) rfl ?_
  refine s_lshl H d5_11 (pc' := 12) rfl ?_
  refine s_land H d5_12 (pc' := 13) rfl ?_
  refine s_lconst H d5_13 (z := (0 : Int64)) (by decide) (pc' := 14) rfl ?_
  refine s_lcmp H d5_14 (pc' := 15) rfl ?_
  refine s_if H d5_15 (py := 22) (pc' := 18) l_eq (by decide) rfl (fun c15 => ?_) (fun c15 => ?_)
  · refine s_iconst H d5_22 (z := (0 : Int32)) (by decide) (pc' := 23) rfl ?_
    exact s_iret H d5_23 rfl (by simp) (by decide) (by decide) (⟨by rw [show gb ws n = false from by rw [← Bool.not_eq_true]; exact fun q => (gb_and hn).mpr q c15]; rfl, rfl⟩)
  · refine s_iconst H d5_18 (z := (1 : Int32)) (by decide) (pc' := 19) rfl ?_
    refine s_goto H d5_19 (pc' := 23) (by decide) ?_
    exact s_iret H d5_23 rfl (by simp) (by decide) (by decide) (⟨by rw [(gb_and hn).mp c15]; rfl, rfl⟩)
theorem own_predN {m : Nat} (h : 1 ≤ m) (hm : m < 2147483648) : m.toInt32 - 1 = (m - 1).toInt32 := by
  apply Int32.toInt_inj.mp
  have s := c_isub m.toInt32 1
  have r := rng32 (m.toInt32 - 1)
  rw [(own_nat hm).2.2, show (1 : Int32).toInt = 1 from by decide] at s
  rw [(own_nat (m := m - 1) (by omega)).2.2]
  omega
theorem gb_setw {ws : List Int64} {i q : Nat} {x : Int64} (hi : i < ws.length) : gb (ws.set i x) q = if q / 64 = i then x.toBitVec.getLsbD (q % 64) else gb ws q := by
  unfold gb
  by_cases e : q / 64 = i
  · simp [e, hi]
  · rw [if_neg e, List.getD_eq_getElem?_getD, List.getElem?_set_ne (Ne.symm e), ← List.getD_eq_getElem?_getD]
theorem own_m1 (i : Nat) (h : i < 64) : (-1 : Int64).toBitVec.getLsbD i = true := by
  show (BitVec.allOnes 64).getLsbD i = true
  rw [BitVec.getLsbD_allOnes]; simpa using h
theorem own_from {f i : Nat} (h : f < 2147483648) (hi : i < 64) : ((-1 : Int64) <<< (f.toInt32 &&& 0x3f).toInt64).toBitVec.getLsbD i = decide (f % 64 ≤ i) := by
  rw [own_shl h, BitVec.getLsbD_shiftLeft]
  by_cases lt : i < f % 64
  · simp [lt]
  · rw [own_m1 _ (by omega)]; simp [hi, lt]; omega
theorem own_to {t i : Nat} (h1 : 1 ≤ t) (h : t < 2147483648) (hi : i < 64) : (((-1 : Int64).toUInt64 >>> ((-t.toInt32) &&& 0x3f).toInt64.toUInt64).toInt64).toBitVec.getLsbD i = decide (i ≤ (t - 1) % 64) := by
  have hk : (-t.toInt32).toBitVec.toNat % 64 = (64 - t % 64) % 64 := by
    show (-(BitVec.ofNat 32 t)).toNat % 64 = _
    rw [BitVec.toNat_neg, BitVec.toNat_ofNat]; omega
  obtain ⟨e1, e2⟩ := sm64 (-t.toInt32) ((64 - t % 64) % 64) hk
  show ((-1 : Int64).toUInt64 >>> ((-t.toInt32) &&& 0x3f).toInt64.toUInt64).toBitVec.getLsbD i = _
  rw [UInt64.toBitVec_shiftRight]
  show ((-1 : Int64).toBitVec >>> (((-t.toInt32) &&& 0x3f).toInt64.toBitVec % 64)).getLsbD i = _
  rw [e1]
  have e3 : (BitVec.ofNat 64 ((64 - t % 64) % 64) % (64 : BitVec 64)).toNat = (64 - t % 64) % 64 := by
    rw [BitVec.toNat_umod, BitVec.toNat_ofNat]; simp
  rw [BitVec.ushiftRight_eq', e3, BitVec.getLsbD_ushiftRight]
  by_cases lt : (64 - t % 64) % 64 + i < 64
  · rw [own_m1 _ lt]; simp; omega
  · rw [BitVec.getLsbD_of_ge _ _ (by omega)]; simp; omega
set_option maxRecDepth 65536 in
set_option maxHeartbeats 40000000 in
theorem mr_loop {Z : State} {k : Cx} {F : Hp} {m wa : Addr} {f t la len : Nat} {fi : Int32} {fo bt : Int64} {tgt : Nat → Bool} (d : Nat) (ws : List Int64) (w : Nat) (H : Ok Z k ({ frames := 0, cells := 0, slots := 0, locals := 0 } : Room) (fun v M' => ∃ ws' : List Int64, ws'.length = len ∧ (∀ q, q / 64 < len → gb ws' q = tgt q) ∧ v = none ∧ M' = ((wa, ArL Z ws') :: (m, Obj Z "com/example/thorough_paths/thoroughpaths/service/Marks" [("com/example/thorough_paths/thoroughpaths/service/Marks", "words", "[J", (.ref wa))]) :: F)) y_4 prog_96_method_5_code 10 none) (hlen : ws.length = len) (hla : la < len) (hlb : len < 2147483648) (hT : ∀ q, q / 64 < len → tgt q = (gb ws q || decide (w ≤ q / 64 ∧ q / 64 < la) || (decide (q / 64 = la) && bt.toBitVec.getLsbD (q % 64)))) (hd : w + d = la) : Go Z k 0 0 ((wa, ArL Z ws) :: (m, Obj Z "com/example/thorough_paths/thoroughpaths/service/Marks" [("com/example/thorough_paths/thoroughpaths/service/Marks", "words", "[J", (.ref wa))]) :: F) 71 #[.val (.ref m), .val (.int f.toInt32), .val (.int t.toInt32), .val (.int fi), .val (.int la.toInt32), .val (.long fo), .second, .val (.long bt), .second, .val (.int w.toInt32)] [] := by
  induction d generalizing ws w with
  | zero =>
    refine s_iload H d4_71 rfl (pc' := 73) rfl ?_
    refine s_iload H d4_73 rfl (pc' := 75) rfl ?_
    refine s_icmp H d4_75 (py := 94) (pc' := 78) q_ge (by decide) rfl (fun c75 => ?_) (fun c75 => ?_)
    · refine s_aloadn H d4_94 rfl rfl (pc' := 95) rfl ?_
      refine s_getf H d4_95 (mem (i := 11) rfl) (i := 1) (j := 0) rfl rfl (pc' := 98) rfl ?_
      refine s_iload H d4_98 rfl (pc' := 100) rfl ?_
      refine s_dup2 H d4_100 rfl rfl (pc' := 101) rfl ?_
      refine s_laload H d4_101 (i := 0) rfl (x := (ws.getD la 0)) (own_nat (by omega)).2.1 (jn := la) (own_nat (by omega)).1 (getD_some (by omega)) (pc' := 102) rfl ?_
      refine s_lload H d4_102 rfl (pc' := 104) rfl ?_
      refine s_lor H d4_104 (pc' := 105) rfl ?_
      refine s_lastore H d4_105 (i := 0) rfl (own_nat (by omega)).2.1 (jn := la) (own_nat (by omega)).1 (by omega) (pc' := 106) rfl ?_
      show Go Z k 0 0 ((wa, ArL Z (ws.set la ((ws.getD la 0) ||| bt))) :: (m, Obj Z "com/example/thorough_paths/thoroughpaths/service/Marks" [("com/example/thorough_paths/thoroughpaths/service/Marks", "words", "[J", (.ref wa))]) :: F) 106 #[.val (.ref m), .val (.int f.toInt32), .val (.int t.toInt32), .val (.int fi), .val (.int la.toInt32), .val (.long fo), .second, .val (.long bt), .second, .val (.int w.toInt32)] []
      refine s_vret H d4_106 (by decide) (by decide) ?_
      refine ⟨_, by rw [List.length_set]; exact hlen, fun q hq => ?_, rfl, rfl⟩
      rw [hT q hq, gb_setw (by omega)]
      have hn : ¬ (w ≤ q / 64 ∧ q / 64 < la) := by omega
      by_cases e : q / 64 = la
      · rw [if_pos e]
        show ((ws.getD la 0).toBitVec ||| bt.toBitVec).getLsbD (q % 64) = _
        rw [BitVec.getLsbD_or]; simp [hn, e, gb]
      · simp [hn, e]
    · exact absurd ((own_le (by omega) (by omega)).mpr (by omega)) c75
  | succ d ih =>
    refine s_iload H d4_71 rfl (pc' := 73) rfl ?_
    refine s_iload H d4_73 rfl (pc' := 75) rfl ?_
    refine s_icmp H d4_75 (py := 94) (pc' := 78) q_ge (by decide) rfl (fun c75 => ?_) (fun c75 => ?_)
    · exact absurd ((own_le (by omega) (by omega)).mp c75) (by omega)
    · refine s_aloadn H d4_78 rfl rfl (pc' := 79) rfl ?_
      refine s_getf H d4_79 (mem (i := 11) rfl) (i := 1) (j := 0) rfl rfl (pc' := 82) rfl ?_
      refine s_iload H d4_82 rfl (pc' := 84) rfl ?_
      refine s_ldc2 H d4_84 (mem (i := 23) rfl) (pc' := 87) rfl ?_
      refine s_lastore H d4_87 (i := 0) rfl (own_nat (by omega)).2.1 (jn := w) (own_nat (by omega)).1 (by omega) (pc' := 88) rfl ?_
      show Go Z k 0 0 ((wa, ArL Z (ws.set w (-1 : Int64))) :: (m, Obj Z "com/example/thorough_paths/thoroughpaths/service/Marks" [("com/example/thorough_paths/thoroughpaths/service/Marks", "words", "[J", (.ref wa))]) :: F) 88 #[.val (.ref m), .val (.int f.toInt32), .val (.int t.toInt32), .val (.int fi), .val (.int la.toInt32), .val (.long fo), .second, .val (.long bt), .second, .val (.int w.toInt32)] []
      refine s_iinc H d4_88 rfl (u := (1 : Int32)) (by decide) (L' := fun z => #[.val (.ref m), .val (.int f.toInt32), .val (.int t.toInt32), .val (.int fi), .val (.int la.toInt32), .val (.long fo), .second, .val (.long bt), .second, .val (.int z)]) (fun _ => rfl) (pc' := 91) rfl (fun w2 h_w2 => ?_)
      refine s_goto H d4_91 (pc' := 71) (by decide) ?_
      rw [h_w2, own_succ]
      refine ih _ (w + 1) (by rw [List.length_set]; exact hlen) (fun q hq => ?_) (by omega)
      rw [hT q hq, gb_setw (by omega)]
      by_cases e : q / 64 = w
      · rw [if_pos e, own_m1 _ (by omega)]
        have hn : w ≤ q / 64 ∧ q / 64 < la := by omega
        simp [hn]
      · rw [if_neg e]
        have hn : (w ≤ q / 64 ∧ q / 64 < la) ↔ (w + 1 ≤ q / 64 ∧ q / 64 < la) := by omega
        simp [hn]
set_option maxRecDepth 65536 in
set_option maxHeartbeats 40000000 in
theorem met_mr {Z : State} (HT : Tb Z) {F : Hp} (m wa : Addr) (ws : List Int64) (f t : Nat) (hf : f < 2147483648) (ht : t < 2147483648) (hlb : ws.length < 33554432) (hl : t ≤ 64 * ws.length) : Met Z y_4 prog_96_method_5_code 10 none ({ frames := 0, cells := 0, slots := 0, locals := 0 } : Room) [(.ref m), (.int f.toInt32), (.int t.toInt32)] ((wa, ArL Z ws) :: (m, Obj Z "com/example/thorough_paths/thoroughpaths/service/Marks" [("com/example/thorough_paths/thoroughpaths/service/Marks", "words", "[J", (.ref wa))]) :: F) (fun v M' => ∃ ws' : List Int64, ws'.length = ws.length ∧ (∀ q, q / 64 < ws.length → gb ws' q = (gb ws q || decide (f ≤ q ∧ q < t))) ∧ v = none ∧ M' = ((wa, ArL Z ws') :: (m, Obj Z "com/example/thorough_paths/thoroughpaths/service/Marks" [("com/example/thorough_paths/thoroughpaths/service/Marks", "words", "[J", (.ref wa))]) :: F)) := by
  refine Met.of HT pl_4 (Ls := #[.val (.ref m), .val (.int f.toInt32), .val (.int t.toInt32), .unset, .unset, .unset, .unset, .unset, .unset, .unset]) (fun m => by first | (simp [entryFrame, mkF, argsToLocals, Value.category]; done) | rfl) (fun k H => ?_)
  refine s_iloadn H d4_0 rfl (pc' := 1) rfl ?_
  refine s_iloadn H d4_1 rfl (pc' := 2) rfl ?_
  refine s_icmp H d4_2 (py := 6) (pc' := 5) q_lt (by decide) rfl (fun c2 => ?_) (fun c2 => ?_)
  · rw [own_lt hf ht] at c2
    refine s_iloadn H d4_6 rfl (pc' := 7) rfl ?_
    refine s_bipush H d4_7 (z := (6 : Int32)) (by decide) (pc' := 9) rfl ?_
    refine s_iushr H d4_9 (pc' := 10) rfl ?_
    rw [own_q6 hf]
    refine s_istoren H d4_10 (L' := fun z => #[.val (.ref m), .val (.int f.toInt32), .val (.int t.toInt32), .val (.int z), .unset, .unset, .unset, .unset, .unset, .unset]) (fun _ => rfl) (pc' := 11) rfl (fun z0 hz => ?_)
    subst z0
    refine s_iloadn H d4_11 rfl (pc' := 12) rfl ?_
    refine s_iconst H d4_12 (z := (1 : Int32)) (by decide) (pc' := 13) rfl ?_
    refine s_isub H d4_13 (pc' := 14) rfl ?_
    rw [own_predN (by omega) ht]
    refine s_bipush H d4_14 (z := (6 : Int32)) (by decide) (pc' := 16) rfl ?_
    refine s_iushr H d4_16 (pc' := 17) rfl ?_
    rw [own_q6 (by omega)]
    refine s_istore H d4_17 (L' := fun z => #[.val (.ref m), .val (.int f.toInt32), .val (.int t.toInt32), .val (.int (f / 64).toInt32), .val (.int z), .unset, .unset, .unset, .unset, .unset]) (fun _ => rfl) (pc' := 19) rfl (fun z0 hz => ?_)
    subst z0
    refine s_ldc2 H d4_19 (mem (i := 23) rfl) (pc' := 22) rfl ?_
    refine s_iloadn H d4_22 rfl (pc' := 23) rfl ?_
    refine s_lshl H d4_23 (pc' := 24) rfl ?_
    refine s_lstore H d4_24 (L' := fun z => #[.val (.ref m), .val (.int f.toInt32), .val (.int t.toInt32), .val (.int (f / 64).toInt32), .val (.int ((t - 1) / 64).toInt32), .val (.long z), .second, .unset, .unset, .unset]) (fun _ => rfl) (pc' := 26) rfl (fun fo h_fo => ?_)
    refine s_ldc2 H d4_26 (mem (i := 23) rfl) (pc' := 29) rfl ?_
    refine s_iloadn H d4_29 rfl (pc' := 30) rfl ?_
    refine s_ineg H d4_30 (pc' := 31) rfl ?_
    refine s_lushr H d4_31 (pc' := 32) rfl ?_
    refine s_lstore H d4_32 (L' := fun z => #[.val (.ref m), .val (.int f.toInt32), .val (.int t.toInt32), .val (.int (f / 64).toInt32), .val (.int ((t - 1) / 64).toInt32), .val (.long fo), .second, .val (.long z), .second, .unset]) (fun _ => rfl) (pc' := 34) rfl (fun bt h_bt => ?_)
    refine s_iloadn H d4_34 rfl (pc' := 35) rfl ?_
    refine s_iload H d4_35 rfl (pc' := 37) rfl ?_
    refine s_icmp H d4_37 (py := 55) (pc' := 40) q_ne (by decide) rfl (fun c37 => ?_) (fun c37 => ?_)
    · rw [marks_inj (by omega) (by omega)] at c37
      refine s_aloadn H d4_55 rfl rfl (pc' := 56) rfl ?_
      refine s_getf H d4_56 (mem (i := 11) rfl) (i := 1) (j := 0) rfl rfl (pc' := 59) rfl ?_
      refine s_iloadn H d4_59 rfl (pc' := 60) rfl ?_
      refine s_dup2 H d4_60 rfl rfl (pc' := 61) rfl ?_
      refine s_laload H d4_61 (i := 0) rfl (x := (ws.getD (f / 64) 0)) (own_nat (by omega)).2.1 (jn := (f / 64)) (own_nat (by omega)).1 (getD_some (by omega)) (pc' := 62) rfl ?_
      refine s_lload H d4_62 rfl (pc' := 64) rfl ?_
      refine s_lor H d4_64 (pc' := 65) rfl ?_
      refine s_lastore H d4_65 (i := 0) rfl (own_nat (by omega)).2.1 (jn := (f / 64)) (own_nat (by omega)).1 (by omega) (pc' := 66) rfl ?_
      show Go Z k 0 0 ((wa, ArL Z (ws.set (f / 64) ((ws.getD (f / 64) 0) ||| fo))) :: (m, Obj Z "com/example/thorough_paths/thoroughpaths/service/Marks" [("com/example/thorough_paths/thoroughpaths/service/Marks", "words", "[J", (.ref wa))]) :: F) 66 #[.val (.ref m), .val (.int f.toInt32), .val (.int t.toInt32), .val (.int (f / 64).toInt32), .val (.int ((t - 1) / 64).toInt32), .val (.long fo), .second, .val (.long bt), .second, .unset] []
      refine s_iloadn H d4_66 rfl (pc' := 67) rfl ?_
      refine s_iconst H d4_67 (z := (1 : Int32)) (by decide) (pc' := 68) rfl ?_
      refine s_iadd H d4_68 (pc' := 69) rfl ?_
      refine s_istore H d4_69 (L' := fun z => #[.val (.ref m), .val (.int f.toInt32), .val (.int t.toInt32), .val (.int (f / 64).toInt32), .val (.int ((t - 1) / 64).toInt32), .val (.long fo), .second, .val (.long bt), .second, .val (.int z)]) (fun _ => rfl) (pc' := 71) rfl (fun w h_w => ?_)
      have elen : (ws.set (f / 64) (ws.getD (f / 64) 0 ||| fo)).length = ws.length := List.length_set
      have ew : (f / 64).toInt32 + 1 = (f / 64 + 1).toInt32 := own_succ _
      rw [h_w, ew]
      refine mr_loop ((t - 1) / 64 - (f / 64 + 1)) _ _ H elen (by omega) (by omega) (fun q hq => ?_) (by omega)
      rw [gb_setw (by omega), h_bt, own_to (by omega) ht (by omega)]
      by_cases e : q / 64 = f / 64
      · rw [if_pos e]
        show _ = (((ws.getD (f / 64) 0).toBitVec ||| fo.toBitVec).getLsbD (q % 64) || _ || _)
        rw [BitVec.getLsbD_or, h_fo, own_from hf (by omega)]
        have a1 : ¬ (f / 64 + 1 ≤ q / 64 ∧ q / 64 < (t - 1) / 64) := by omega
        have fl : f / 64 < (t - 1) / 64 := by have := Nat.div_le_div_right (c := 64) (show f ≤ t - 1 by omega); omega
        have a2 : ¬ q / 64 = (t - 1) / 64 := by omega
        have a3 : (f % 64 ≤ q % 64) ↔ (f ≤ q ∧ q < t) := by omega
        have d3 : decide (f % 64 ≤ q % 64) = decide (f ≤ q ∧ q < t) := decide_eq_decide.mpr a3
        unfold gb; rw [e, d3]
        have a4 : ¬ f / 64 = (t - 1) / 64 := by omega
        have a5 : ¬ (f / 64 + 1 ≤ f / 64 ∧ f / 64 < (t - 1) / 64) := by omega
        simp only [a4, a5, decide_false, Bool.false_and, Bool.or_false]
      · rw [if_neg e]
        have a3 : (f ≤ q ∧ q < t) ↔ ((f / 64 + 1 ≤ q / 64 ∧ q / 64 < (t - 1) / 64) ∨ (q / 64 = (t - 1) / 64 ∧ q % 64 ≤ (t - 1) % 64)) := by omega
        have d3 : decide (f ≤ q ∧ q < t) = decide ((f / 64 + 1 ≤ q / 64 ∧ q / 64 < (t - 1) / 64) ∨ (q / 64 = (t - 1) / 64 ∧ q % 64 ≤ (t - 1) % 64)) := decide_eq_decide.mpr a3
        rw [d3]; simp [Bool.or_assoc]
    · have c37' := (marks_inj (by omega) (by omega)).mp (Classical.not_not.mp c37)
      refine s_aloadn H d4_40 rfl rfl (pc' := 41) rfl ?_
      refine s_getf H d4_41 (mem (i := 11) rfl) (i := 1) (j := 0) rfl rfl (pc' := 44) rfl ?_
      refine s_iloadn H d4_44 rfl (pc' := 45) rfl ?_
      refine s_dup2 H d4_45 rfl rfl (pc' := 46) rfl ?_
      refine s_laload H d4_46 (i := 0) rfl (x := (ws.getD (f / 64) 0)) (own_nat (by omega)).2.1 (jn := (f / 64)) (own_nat (by omega)).1 (getD_some (by omega)) (pc' := 47) rfl ?_
      refine s_lload H d4_47 rfl (pc' := 49) rfl ?_
      refine s_lload H d4_49 rfl (pc' := 51) rfl ?_
      refine s_land H d4_51 (pc' := 52) rfl ?_
      refine s_lor H d4_52 (pc' := 53) rfl ?_
      refine s_lastore H d4_53 (i := 0) rfl (own_nat (by omega)).2.1 (jn := (f / 64)) (own_nat (by omega)).1 (by omega) (pc' := 54) rfl ?_
      show Go Z k 0 0 ((wa, ArL Z (ws.set (f / 64) ((ws.getD (f / 64) 0) ||| (fo &&& bt)))) :: (m, Obj Z "com/example/thorough_paths/thoroughpaths/service/Marks" [("com/example/thorough_paths/thoroughpaths/service/Marks", "words", "[J", (.ref wa))]) :: F) 54 #[.val (.ref m), .val (.int f.toInt32), .val (.int t.toInt32), .val (.int (f / 64).toInt32), .val (.int ((t - 1) / 64).toInt32), .val (.long fo), .second, .val (.long bt), .second, .unset] []
      refine s_vret H d4_54 (by decide) (by decide) ?_
      refine ⟨_, List.length_set, fun q hq => ?_, rfl, rfl⟩
      rw [gb_setw (by omega)]
      by_cases e : q / 64 = f / 64
      · rw [if_pos e]
        show ((ws.getD (f / 64) 0).toBitVec ||| (fo.toBitVec &&& bt.toBitVec)).getLsbD (q % 64) = _
        rw [BitVec.getLsbD_or, BitVec.getLsbD_and, h_fo, h_bt, own_from hf (by omega), own_to (by omega) ht (by omega)]
        have hq2 : (f % 64 ≤ q % 64 ∧ q % 64 ≤ (t - 1) % 64) ↔ (f ≤ q ∧ q < t) := by omega
        unfold gb; rw [e]
        have d3 : (decide (f % 64 ≤ q % 64) && decide (q % 64 ≤ (t - 1) % 64)) = decide (f ≤ q ∧ q < t) := by rw [← Bool.decide_and]; exact decide_eq_decide.mpr hq2
        rw [d3]
      · rw [if_neg e]
        have : ¬ (f ≤ q ∧ q < t) := by omega
        simp [this]
  · rw [own_lt hf ht] at c2
    refine s_vret H d4_5 (by decide) (by decide) ?_
    refine ⟨ws, rfl, fun q hq => ?_, rfl, rfl⟩
    have : ¬ (f ≤ q ∧ q < t) := by omega
    simp [this]
set_option maxRecDepth 65536 in
set_option maxHeartbeats 40000000 in
theorem s34 {Z : State} {k : Cx} {i0 i1 i2 i3 : Int32} (f t p q : Nat) (H : Ok Z k room_1 (LQ) x code maxLocals ret) (hf : f < 257) (ht : t < 257) (hp : p < 256) (hq : q < 256) : Go Z k 0 0 ([] : Hp) 34 #[.val (.int i0), .val (.int i1), .val (.int i2), .val (.int i3), .val (.int f.toInt32), .val (.int t.toInt32), .val (.int p.toInt32), .val (.int q.toInt32), .unset, .unset] [] := by
  refine s_new H (C := "com/example/thorough_paths/thoroughpaths/service/Marks") [("com/example/thorough_paths/thoroughpaths/service/Marks", "words", "[J", .null)] at_34 (mem (i := 1) rfl) (mem (i := 2) rfl) (mem (i := 3) rfl) (allC ⟨Or.inr (mem (i := 12) rfl), (.array .long), by decide, rfl⟩ allN) (by decide) (cn' := 1) (sn' := 1) rfl rfl (by decide) (by decide) (pc' := 37) rfl (fun a1 => ?_)
  refine s_dup H at_37 rfl (pc' := 38) rfl ?_
  refine s_sipush H at_38 (z := (256 : Int32)) (by decide) (pc' := 41) rfl ?_
  show Go Z k _ _ _ 41 _ [(.int (256 : Nat).toInt32), _, _]
  refine s_init H (met_mi H.tb a1 256 (by decide)) at_41 rfl (mem (i := 4) rfl) (mem (i := 5) rfl) (mem (i := 3) rfl) (mem (i := 6) rfl) (by decide) pd_1 rfl (rest := [(.ref a1)]) rfl rfl (by decide) (Nat.le_of_ble_eq_true rfl) (cn' := 2) (sn' := 5) rfl rfl (by decide) (by decide) (pc' := 44) rfl (fun _ _ hq => ?_)
  obtain ⟨wa, rfl, rfl⟩ := hq
  show Go Z k 2 5 ((wa, ArL Z (List.replicate ((256 + 63) / 64) 0)) :: (a1, Obj Z "com/example/thorough_paths/thoroughpaths/service/Marks" [("com/example/thorough_paths/thoroughpaths/service/Marks", "words", "[J", (.ref wa))]) :: []) 44 #[.val (.int i0), .val (.int i1), .val (.int i2), .val (.int i3), .val (.int f.toInt32), .val (.int t.toInt32), .val (.int p.toInt32), .val (.int q.toInt32), .unset, .unset] [(.ref a1)]
  obtain ⟨ws0, hw0, l0, g0⟩ : ∃ ws : List Int64, ws = List.replicate ((256 + 63) / 64) 0 ∧ ws.length = (256 + 63) / 64 ∧ ∀ q, gb ws q = false := ⟨_, rfl, by simp, gb_new _⟩
  rw [← hw0]
  clear hw0
  have g0p := g0 p
  show Go Z k 2 5 ((wa, ArL Z ws0) :: (a1, Obj Z "com/example/thorough_paths/thoroughpaths/service/Marks" [("com/example/thorough_paths/thoroughpaths/service/Marks", "words", "[J", (.ref wa))]) :: []) 44 #[.val (.int i0), .val (.int i1), .val (.int i2), .val (.int i3), .val (.int f.toInt32), .val (.int t.toInt32), .val (.int p.toInt32), .val (.int q.toInt32), .unset, .unset] [(.ref a1)]
  refine s_astore H at_44 (L' := #[.val (.int i0), .val (.int i1), .val (.int i2), .val (.int i3), .val (.int f.toInt32), .val (.int t.toInt32), .val (.int p.toInt32), .val (.int q.toInt32), .val (.ref a1), .unset]) rfl rfl (pc' := 46) rfl ?_
  refine s_aload H at_46 rfl rfl (pc' := 48) rfl ?_
  refine s_iload H at_48 rfl (pc' := 50) rfl ?_
  refine s_virtual H (met_ms H.tb a1 wa ws0 q (by omega) (by omega)) at_50 (i := 1) rfl (mem (i := 13) rfl) (mem (i := 14) rfl) (mem (i := 16) rfl) (mem (i := 15) rfl) (mem (i := 3) rfl) (mem (i := 17) rfl) (by decide) pd_3 rfl (rest := []) rfl rfl (by decide) (Nat.le_of_ble_eq_true rfl) (cn' := 2) (sn' := 5) rfl rfl (by decide) (by decide) (pc' := 53) rfl (fun _ _ hq => ?_)
  obtain ⟨ws2, l2, g2, rfl, rfl⟩ := hq
  show Go Z k 2 5 ((wa, ArL Z ws2) :: (a1, Obj Z "com/example/thorough_paths/thoroughpaths/service/Marks" [("com/example/thorough_paths/thoroughpaths/service/Marks", "words", "[J", (.ref wa))]) :: []) 53 #[.val (.int i0), .val (.int i1), .val (.int i2), .val (.int i3), .val (.int f.toInt32), .val (.int t.toInt32), .val (.int p.toInt32), .val (.int q.toInt32), .val (.ref a1), .unset] []
  have g2p := g2 p (by omega)
  refine s_aload H at_53 rfl rfl (pc' := 55) rfl ?_
  refine s_iload H at_55 rfl (pc' := 57) rfl ?_
  refine s_iload H at_57 rfl (pc' := 59) rfl ?_
  refine s_virtual H (met_mr H.tb a1 wa ws2 f t (by omega) (by omega) (by omega) (by omega)) at_59 (i := 1) rfl (mem (i := 18) rfl) (mem (i := 19) rfl) (mem (i := 21) rfl) (mem (i := 20) rfl) (mem (i := 3) rfl) (mem (i := 22) rfl) (by decide) pd_4 rfl (rest := []) rfl rfl (by decide) (Nat.le_of_ble_eq_true rfl) (cn' := 2) (sn' := 5) rfl rfl (by decide) (by decide) (pc' := 62) rfl (fun _ _ hq => ?_)
  obtain ⟨ws3, l3, g3, rfl, rfl⟩ := hq
  show Go Z k 2 5 ((wa, ArL Z ws3) :: (a1, Obj Z "com/example/thorough_paths/thoroughpaths/service/Marks" [("com/example/thorough_paths/thoroughpaths/service/Marks", "words", "[J", (.ref wa))]) :: []) 62 #[.val (.int i0), .val (.int i1), .val (.int i2), .val (.int i3), .val (.int f.toInt32), .val (.int t.toInt32), .val (.int p.toInt32), .val (.int q.toInt32), .val (.ref a1), .unset] []
  have g3p := g3 p (by omega)
  refine s_iload H at_62 rfl (pc' := 64) rfl ?_
  refine s_iload H at_64 rfl (pc' := 66) rfl ?_
  refine s_icmp H at_66 (py := 83) (pc' := 69) q_eq (by decide) rfl (fun c66 => ?_) (fun c66 => ?_)
  · rw [marks_inj (by omega) (by omega)] at c66
    refine s_iconst H at_83 (z := (1 : Int32)) (by decide) (pc' := 84) rfl ?_
    refine s_goto H at_84 (pc' := 88) (by decide) ?_
    refine s_istore H at_88 (L' := fun z => #[.val (.int i0), .val (.int i1), .val (.int i2), .val (.int i3), .val (.int f.toInt32), .val (.int t.toInt32), .val (.int p.toInt32), .val (.int q.toInt32), .val (.ref a1), .val (.int z)]) (fun _ => rfl) (pc' := 90) rfl (fun z0 hz => ?_)
    subst z0
    refine s_aload H at_90 rfl rfl (pc' := 92) rfl ?_
    refine s_iload H at_92 rfl (pc' := 94) rfl ?_
    refine s_virtual H (met_mg H.tb a1 wa ws3 p (by omega) (by omega)) at_94 (i := 1) rfl (mem (i := 24) rfl) (mem (i := 25) rfl) (mem (i := 27) rfl) (mem (i := 26) rfl) (mem (i := 3) rfl) (mem (i := 28) rfl) (by decide) pd_5 rfl (rest := []) rfl rfl (by decide) (Nat.le_of_ble_eq_true rfl) (cn' := 2) (sn' := 5) rfl rfl (by decide) (by decide) (pc' := 97) rfl (fun _ _ hq => ?_)
    obtain ⟨rfl, rfl⟩ := hq
    show Go Z k 2 5 ((wa, ArL Z ws3) :: (a1, Obj Z "com/example/thorough_paths/thoroughpaths/service/Marks" [("com/example/thorough_paths/thoroughpaths/service/Marks", "words", "[J", (.ref wa))]) :: []) 97 #[.val (.int i0), .val (.int i1), .val (.int i2), .val (.int i3), .val (.int f.toInt32), .val (.int t.toInt32), .val (.int p.toInt32), .val (.int q.toInt32), .val (.ref a1), .val (.int (1 : Int32))] [(.int (b2i (gb ws3 p)))]
    refine s_iload H at_97 rfl (pc' := 99) rfl ?_
    refine s_icmp H at_99 (py := 106) (pc' := 102) q_ne (by decide) rfl (fun c99 => ?_) (fun c99 => ?_)
    · refine s_iconst H at_106 (z := (0 : Int32)) (by decide) (pc' := 107) rfl ?_
      exfalso
      simp_all [b2i]
      try omega
    · refine s_iconst H at_102 (z := (1 : Int32)) (by decide) (pc' := 103) rfl ?_
      refine s_goto H at_103 (pc' := 107) (by decide) ?_
      exact s_iret H at_107 rfl (by simp) (by decide) (by decide) (rfl)
  · rw [marks_inj (by omega) (by omega)] at c66
    refine s_iload H at_69 rfl (pc' := 71) rfl ?_
    refine s_iload H at_71 rfl (pc' := 73) rfl ?_
    refine s_icmp H at_73 (py := 87) (pc' := 76) q_gt (by decide) rfl (fun c73 => ?_) (fun c73 => ?_)
    · rw [own_lt (by omega) (by omega)] at c73
      refine s_iconst H at_87 (z := (0 : Int32)) (by decide) (pc' := 88) rfl ?_
      refine s_istore H at_88 (L' := fun z => #[.val (.int i0), .val (.int i1), .val (.int i2), .val (.int i3), .val (.int f.toInt32), .val (.int t.toInt32), .val (.int p.toInt32), .val (.int q.toInt32), .val (.ref a1), .val (.int z)]) (fun _ => rfl) (pc' := 90) rfl (fun z0 hz => ?_)
      subst z0
      refine s_aload H at_90 rfl rfl (pc' := 92) rfl ?_
      refine s_iload H at_92 rfl (pc' := 94) rfl ?_
      refine s_virtual H (met_mg H.tb a1 wa ws3 p (by omega) (by omega)) at_94 (i := 1) rfl (mem (i := 24) rfl) (mem (i := 25) rfl) (mem (i := 27) rfl) (mem (i := 26) rfl) (mem (i := 3) rfl) (mem (i := 28) rfl) (by decide) pd_5 rfl (rest := []) rfl rfl (by decide) (Nat.le_of_ble_eq_true rfl) (cn' := 2) (sn' := 5) rfl rfl (by decide) (by decide) (pc' := 97) rfl (fun _ _ hq => ?_)
      obtain ⟨rfl, rfl⟩ := hq
      show Go Z k 2 5 ((wa, ArL Z ws3) :: (a1, Obj Z "com/example/thorough_paths/thoroughpaths/service/Marks" [("com/example/thorough_paths/thoroughpaths/service/Marks", "words", "[J", (.ref wa))]) :: []) 97 #[.val (.int i0), .val (.int i1), .val (.int i2), .val (.int i3), .val (.int f.toInt32), .val (.int t.toInt32), .val (.int p.toInt32), .val (.int q.toInt32), .val (.ref a1), .val (.int (0 : Int32))] [(.int (b2i (gb ws3 p)))]
      refine s_iload H at_97 rfl (pc' := 99) rfl ?_
      refine s_icmp H at_99 (py := 106) (pc' := 102) q_ne (by decide) rfl (fun c99 => ?_) (fun c99 => ?_)
      · refine s_iconst H at_106 (z := (0 : Int32)) (by decide) (pc' := 107) rfl ?_
        exfalso
        simp_all [b2i]
        try omega
      · refine s_iconst H at_102 (z := (1 : Int32)) (by decide) (pc' := 103) rfl ?_
        refine s_goto H at_103 (pc' := 107) (by decide) ?_
        exact s_iret H at_107 rfl (by simp) (by decide) (by decide) (rfl)
    · rw [own_lt (by omega) (by omega)] at c73
      refine s_iload H at_76 rfl (pc' := 78) rfl ?_
      refine s_iload H at_78 rfl (pc' := 80) rfl ?_
      refine s_icmp H at_80 (py := 87) (pc' := 83) q_ge (by decide) rfl (fun c80 => ?_) (fun c80 => ?_)
      · rw [own_le (by omega) (by omega)] at c80
        refine s_iconst H at_87 (z := (0 : Int32)) (by decide) (pc' := 88) rfl ?_
        refine s_istore H at_88 (L' := fun z => #[.val (.int i0), .val (.int i1), .val (.int i2), .val (.int i3), .val (.int f.toInt32), .val (.int t.toInt32), .val (.int p.toInt32), .val (.int q.toInt32), .val (.ref a1), .val (.int z)]) (fun _ => rfl) (pc' := 90) rfl (fun z0 hz => ?_)
        subst z0
        refine s_aload H at_90 rfl rfl (pc' := 92) rfl ?_
        refine s_iload H at_92 rfl (pc' := 94) rfl ?_
        refine s_virtual H (met_mg H.tb a1 wa ws3 p (by omega) (by omega)) at_94 (i := 1) rfl (mem (i := 24) rfl) (mem (i := 25) rfl) (mem (i := 27) rfl) (mem (i := 26) rfl) (mem (i := 3) rfl) (mem (i := 28) rfl) (by decide) pd_5 rfl (rest := []) rfl rfl (by decide) (Nat.le_of_ble_eq_true rfl) (cn' := 2) (sn' := 5) rfl rfl (by decide) (by decide) (pc' := 97) rfl (fun _ _ hq => ?_)
        obtain ⟨rfl, rfl⟩ := hq
        show Go Z k 2 5 ((wa, ArL Z ws3) :: (a1, Obj Z "com/example/thorough_paths/thoroughpaths/service/Marks" [("com/example/thorough_paths/thoroughpaths/service/Marks", "words", "[J", (.ref wa))]) :: []) 97 #[.val (.int i0), .val (.int i1), .val (.int i2), .val (.int i3), .val (.int f.toInt32), .val (.int t.toInt32), .val (.int p.toInt32), .val (.int q.toInt32), .val (.ref a1), .val (.int (0 : Int32))] [(.int (b2i (gb ws3 p)))]
        refine s_iload H at_97 rfl (pc' := 99) rfl ?_
        refine s_icmp H at_99 (py := 106) (pc' := 102) q_ne (by decide) rfl (fun c99 => ?_) (fun c99 => ?_)
        · refine s_iconst H at_106 (z := (0 : Int32)) (by decide) (pc' := 107) rfl ?_
          exfalso
          simp_all [b2i]
          try omega
        · refine s_iconst H at_102 (z := (1 : Int32)) (by decide) (pc' := 103) rfl ?_
          refine s_goto H at_103 (pc' := 107) (by decide) ?_
          exact s_iret H at_107 rfl (by simp) (by decide) (by decide) (rfl)
      · rw [own_le (by omega) (by omega)] at c80
        refine s_iconst H at_83 (z := (1 : Int32)) (by decide) (pc' := 84) rfl ?_
        refine s_goto H at_84 (pc' := 88) (by decide) ?_
        refine s_istore H at_88 (L' := fun z => #[.val (.int i0), .val (.int i1), .val (.int i2), .val (.int i3), .val (.int f.toInt32), .val (.int t.toInt32), .val (.int p.toInt32), .val (.int q.toInt32), .val (.ref a1), .val (.int z)]) (fun _ => rfl) (pc' := 90) rfl (fun z0 hz => ?_)
        subst z0
        refine s_aload H at_90 rfl rfl (pc' := 92) rfl ?_
        refine s_iload H at_92 rfl (pc' := 94) rfl ?_
        refine s_virtual H (met_mg H.tb a1 wa ws3 p (by omega) (by omega)) at_94 (i := 1) rfl (mem (i := 24) rfl) (mem (i := 25) rfl) (mem (i := 27) rfl) (mem (i := 26) rfl) (mem (i := 3) rfl) (mem (i := 28) rfl) (by decide) pd_5 rfl (rest := []) rfl rfl (by decide) (Nat.le_of_ble_eq_true rfl) (cn' := 2) (sn' := 5) rfl rfl (by decide) (by decide) (pc' := 97) rfl (fun _ _ hq => ?_)
        obtain ⟨rfl, rfl⟩ := hq
        show Go Z k 2 5 ((wa, ArL Z ws3) :: (a1, Obj Z "com/example/thorough_paths/thoroughpaths/service/Marks" [("com/example/thorough_paths/thoroughpaths/service/Marks", "words", "[J", (.ref wa))]) :: []) 97 #[.val (.int i0), .val (.int i1), .val (.int i2), .val (.int i3), .val (.int f.toInt32), .val (.int t.toInt32), .val (.int p.toInt32), .val (.int q.toInt32), .val (.ref a1), .val (.int (1 : Int32))] [(.int (b2i (gb ws3 p)))]
        refine s_iload H at_97 rfl (pc' := 99) rfl ?_
        refine s_icmp H at_99 (py := 106) (pc' := 102) q_ne (by decide) rfl (fun c99 => ?_) (fun c99 => ?_)
        · refine s_iconst H at_106 (z := (0 : Int32)) (by decide) (pc' := 107) rfl ?_
          exfalso
          simp_all [b2i]
          try omega
        · refine s_iconst H at_102 (z := (1 : Int32)) (by decide) (pc' := 103) rfl ?_
          refine s_goto H at_103 (pc' := 107) (by decide) ?_
          exact s_iret H at_107 rfl (by simp) (by decide) (by decide) (rfl)
set_option maxRecDepth 65536 in
set_option maxHeartbeats 40000000 in
theorem s0 {Z : State} {k : Cx} {i0 i1 i2 i3 : Int32} (H : Ok Z k room_1 (LQ) x code maxLocals ret)  : Go Z k 0 0 ([] : Hp) 0 #[.val (.int i0), .val (.int i1), .val (.int i2), .val (.int i3), .unset, .unset, .unset, .unset, .unset, .unset] [] := by
  refine s_iloadn H at_0 rfl (pc' := 1) rfl ?_
  refine s_ldc H at_1 (mem (i := 0) rfl) (pc' := 3) rfl ?_
  refine s_iand H at_3 (pc' := 4) rfl ?_
  refine s_sipush H at_4 (z := (257 : Int32)) (by decide) (pc' := 7) rfl ?_
  refine s_irem H at_7 (by decide) (pc' := 8) rfl ?_
  refine s_istore H at_8 (L' := fun z => #[.val (.int i0), .val (.int i1), .val (.int i2), .val (.int i3), .val (.int z), .unset, .unset, .unset, .unset, .unset]) (fun _ => rfl) (pc' := 10) rfl (fun f h_f => ?_)
  refine s_iloadn H at_10 rfl (pc' := 11) rfl ?_
  refine s_ldc H at_11 (mem (i := 0) rfl) (pc' := 13) rfl ?_
  refine s_iand H at_13 (pc' := 14) rfl ?_
  refine s_sipush H at_14 (z := (257 : Int32)) (by decide) (pc' := 17) rfl ?_
  refine s_irem H at_17 (by decide) (pc' := 18) rfl ?_
  refine s_istore H at_18 (L' := fun z => #[.val (.int i0), .val (.int i1), .val (.int i2), .val (.int i3), .val (.int f), .val (.int z), .unset, .unset, .unset, .unset]) (fun _ => rfl) (pc' := 20) rfl (fun t h_t => ?_)
  refine s_iloadn H at_20 rfl (pc' := 21) rfl ?_
  refine s_sipush H at_21 (z := (255 : Int32)) (by decide) (pc' := 24) rfl ?_
  refine s_iand H at_24 (pc' := 25) rfl ?_
  refine s_istore H at_25 (L' := fun z => #[.val (.int i0), .val (.int i1), .val (.int i2), .val (.int i3), .val (.int f), .val (.int t), .val (.int z), .unset, .unset, .unset]) (fun _ => rfl) (pc' := 27) rfl (fun p h_p => ?_)
  refine s_iloadn H at_27 rfl (pc' := 28) rfl ?_
  refine s_sipush H at_28 (z := (255 : Int32)) (by decide) (pc' := 31) rfl ?_
  refine s_iand H at_31 (pc' := 32) rfl ?_
  refine s_istore H at_32 (L' := fun z => #[.val (.int i0), .val (.int i1), .val (.int i2), .val (.int i3), .val (.int f), .val (.int t), .val (.int p), .val (.int z), .unset, .unset]) (fun _ => rfl) (pc' := 34) rfl (fun q h_q => ?_)
  have mf := c_mask i0 2147483647 31 (by decide) (by decide)
  have rf := (c_irem (i0 &&& 2147483647) 257 257 (by decide)).1 (by omega)
  rw [← h_f] at rf
  have mt := c_mask i1 2147483647 31 (by decide) (by decide)
  have rt := (c_irem (i1 &&& 2147483647) 257 257 (by decide)).1 (by omega)
  rw [← h_t] at rt
  have mp := c_mask i2 255 8 (by decide) (by decide)
  rw [← h_p] at mp
  have mq := c_mask i3 255 8 (by decide) (by decide)
  rw [← h_q] at mq
  have t_f : f = f.toInt.toNat.toInt32 := by apply Int32.toInt_inj.mp; rw [(own_nat (by omega)).2.2]; omega
  have t_t : t = t.toInt.toNat.toInt32 := by apply Int32.toInt_inj.mp; rw [(own_nat (by omega)).2.2]; omega
  have t_p : p = p.toInt.toNat.toInt32 := by apply Int32.toInt_inj.mp; rw [(own_nat (by omega)).2.2]; omega
  have t_q : q = q.toInt.toNat.toInt32 := by apply Int32.toInt_inj.mp; rw [(own_nat (by omega)).2.2]; omega
  rw [t_f, t_t, t_p, t_q]
  exact s34 _ _ _ _ H (by omega) (by omega) (by omega) (by omega)
theorem pl_0 : plainFor x = true := plainFor_of_name (by first | (simp [plainName, overriddenIn, x]; done) | decide +kernel)
set_option maxRecDepth 65536 in
set_option maxHeartbeats 40000000 in
theorem met_law {Z : State} (HT : Tb Z) (l : Launch) (ws : List Jvm.Cond) (i0 : Int32) (i1 : Int32) (i2 : Int32) (i3 : Int32) (h0 : Heap) (hO : Own Z h0 []) :
    MetFree l x (head1 (Jvm.Cond.code x code maxLocals ret :: ws) room_1) (fun a U => a = [(.int i0), (.int i1), (.int i2), (.int i3)].toArray ∧ Z.Warmed39 U.vm ∧ U.heap = h0) (fun _ _ _ _ _ => True) (fun _ U o U' => ∃ v L, o = .returned v ∧ (Fr Z.heap.size L ∧ ∃ M, LQ v M ∧ Own Z U'.heap M) ∧ FrameEnd U o U' L room_1.cells room_1.slots) :=
  met_of l HT pl_0 (Ls := #[.val (.int i0), .val (.int i1), .val (.int i2), .val (.int i3), .unset, .unset, .unset, .unset, .unset, .unset]) (fun m => by first | (simp [entryFrame, mkF, argsToLocals, Value.category, maxLocals]; done) | rfl) hO (fun k H => s0 H)
set_option maxRecDepth 65536 in
set_option maxHeartbeats 40000000 in
theorem comes_1 {Post : Tables → Env → Array Value → State → Outcome → State → Prop} (hpost : ∀ tb e args s v u, (limb_1_1.after args s (.returned v) u = true ∧ limb_1_2.after args s (.returned v) u = true ∧ True) → FrameEnd s (.returned v) u (Jvm.fieldLocs frame_1_writes args s ++ Jvm.arrayLocs frame_1_arrays args s ++ Jvm.staticLocs frame_1_statics s) 16 128 → Post tb e args s (.returned v) u) :
    ArmFor flags0 classFile x code maxLocals ret World_1 tables_1 room_1 Calls_1 rest_1 Pre_1 Post := by
  intro l hfl _ _ p e ha hc hk s m args below hf hA hF happ hP
  obtain ⟨hcalls, hrest, hpre⟩ := hP
  obtain ⟨-, -, -, hnamed, -, -, -, hat⟩ := (Spec.applies_iff hf).mp happ
  obtain ⟨hg, hn⟩ := and_e (Cond.before_iff.mp (show (Jvm.Cond.and given_1 narrow_1).before args s = true from hpre))
  obtain ⟨hcnt, hg0⟩ := and_e hg
  obtain ⟨hv0, hg1⟩ := and_e hg0
  obtain ⟨hv1, hg2⟩ := and_e hg1
  obtain ⟨hv2, hg3⟩ := and_e hg2
  obtain ⟨w0, w1, w2, w3, rfl⟩ : ∃ w0 w1 w2 w3 : Value, args = #[w0, w1, w2, w3] := by
    have hs : args.size = 4 := by simpa [Cond.value, given_1] using hcnt
    obtain ⟨L⟩ := args
    match L, hs with
    | [w0, w1, w2, w3], _ => exact ⟨w0, w1, w2, w3, rfl⟩
  have hw := fun d (hd : d ∈ tables_1) => atoms_spec (ws := Jvm.Cond.code x code maxLocals ret :: tables_1) hat d (List.mem_cons_of_mem _ hd)
  obtain ⟨i0, ei0⟩ := is_v hv0
  obtain rfl : w0 = (.int i0) := Option.some.inj ei0
  obtain ⟨i1, ei1⟩ := is_v hv1
  obtain rfl : w1 = (.int i1) := Option.some.inj ei1
  obtain ⟨i2, ei2⟩ := is_v hv2
  obtain rfl : w2 = (.int i2) := Option.some.inj ei2
  obtain ⟨i3, ei3⟩ := is_v hg3
  obtain rfl : w3 = (.int i3) := Option.some.inj ei3
  have hO : Own s s.heap [] := ⟨⟨Nat.le_refl _, fun _ _ q => q⟩, fun i x hx => (by cases hx), fun i j x y hx => (by cases hx)⟩
  obtain ⟨n, o, h1, h2, h3, v, L, rfl, ⟨N, M, hv, -⟩, hq⟩ := met_law (Z := s) ⟨_, hw⟩ l tables_1 i0 i1 i2 i3 s.heap hO p e ha hc hk s m _ below hf ((Spec.applies_iff_loose hf).mp happ).1 ⟨rfl, State.Warmed39.refl s, rfl⟩ trivial
  obtain rfl : v = some (.int 1) := hv
  exact ⟨n, _, h1, h2, h3, hpost _ _ _ _ _ _ ⟨Cond.after_iff.mpr rfl, Cond.after_iff.mpr (eq_i res_at (Term.int_eval (1)) rfl), trivial⟩ ⟨hq.1, hq.2.1, (hq.2.2.sift fun y hy => Or.inr (N y hy)).mono (by decide) (by decide)⟩⟩
theorem main_1_1 : Claimed_1_1 := comes_1 fun _ _ _ _ _ _ h hF => ⟨h.1, hF⟩
theorem main_1_2 : Claimed_1_2 := comes_1 fun _ _ _ _ _ _ h hF => ⟨h.2.1, hF⟩
end Jvm.Pilot.@@N@@
namespace Jvm.Pilot.@@N@@
open Jvm Jvm.ClassFile Sem Op Lib Jvm.Free Jvm.Stand Jvm.Pilot.@@N@@.Jvm.D
/-! MADE BY PROGRAM (witnessworld.py) out of the Statement's table words and the real class files: 11 classes; the members and pool entries that the words name. The judged class is class 1, her method 1. -/
namespace start1
open Jvm.ClassFile
def u (s : String) : CpInfo := .utf8 (stringToUtf16 s)
/-- a pool by its gaps: so many unusable entries, then the entry; so many at the end -/
def gap : Nat → List CpInfo → List CpInfo
  | 0, r => r
  | n + 1, r => .unusable :: gap n r
def poolList (es : List (Nat × CpInfo)) (last : Nat) : List CpInfo := es.foldr (fun e r => gap e.1 (e.2 :: r)) (gap last [])
def pool (es : List (Nat × CpInfo)) (last : Nat) : Array CpInfo := ⟨poolList es last⟩
def fileOf (pool : Array CpInfo) (this : Nat) (attrs : Array Attribute := #[]) (ms : Array MethodInfo := #[]) (fl : Nat := 33) (sup : Nat := 0) (ifs : Array Nat := #[]) (fds : Array FieldInfo := #[]) : ClassFile where
  minorVersion := 0
  majorVersion := 65
  constantPool := pool
  accessFlags := fl
  thisClass := this
  superClass := sup
  interfaces := ifs
  fields := fds
  methods := ms
  attributes := attrs
def plain (name : String) (sup : Option ClassId) : Class where
  name := name
  kind := .ordinary
  loader := none
  accessFlags := 33
  super := sup
  interfaces := #[]
  cf := none
  fields := #[]
  methods := #[]
  instanceTypes := #[]
  staticTypes := #[]
  resolved := #[]
  callSites := []
  init := .initialized
  statics := none
  mirror := none

def pool0 : Array CpInfo := pool [(5, u "<init>"), (0, u "()V"), (1, .class_ 10), (1, u "java/lang/Object")] 113

def k0c0 : Code := { maxStack := 0, maxLocals := 1, code := object_method_1_code, exceptionTable := #[], attributes := #[] }
def k0m0 : Method := { name := "<init>", desc := "()V", sig := { parameters := [], returnType := none }, accessFlags := 1, code := some k0c0 }
/-- java/lang/Object -/
def k0 : Class := { plain "java/lang/Object" none with
  accessFlags := 33
  interfaces := #[]
  cf := some (fileOf pool0 8 #[] #[{ accessFlags := 1, nameIndex := 5, descriptorIndex := 6, attributes := #[] }] 33 0 #[] #[])
  fields := #[]
  methods := #[k0m0]
  instanceTypes := #[]
  staticTypes := #[]
  resolved := Array.replicate 124 none
  statics := none }

def pool1 : Array CpInfo := pool [(2, .class_ 4), (1, u "java/lang/Object"), (0, u "<init>"), (0, u "()V"), (0, .integer 2147483647), (0, .class_ 9), (0, u "com/example/thorough_paths/thoroughpaths/service/Marks"), (0, .methodref 8 11), (0, .nameAndType 5 12), (0, u "(I)V"), (0, .methodref 8 14), (0, .nameAndType 15 12), (0, u "set"), (0, .methodref 8 17), (0, .nameAndType 15 18), (0, u "(II)V"), (0, .methodref 8 20), (0, .nameAndType 21 22), (0, u "get"), (0, u "(I)Z"), (0, .class_ 24), (0, u "com/example/thorough_paths/thoroughpaths/service/MarksSetPinLaw"), (2, u "law"), (0, u "(IIII)Z")] 3

def k1m0 : Method := { name := "<init>", desc := "()V", sig := { parameters := [], returnType := none }, accessFlags := 1, code := none }
def k1c1 : Code := { maxStack := 3, maxLocals := 10, code := code, exceptionTable := #[], attributes := #[] }
def k1m1 : Method := { name := "law", desc := "(IIII)Z", sig := { parameters := [.int, .int, .int, .int], returnType := some .boolean }, accessFlags := 9, code := some k1c1 }
/-- com/example/thorough_paths/thoroughpaths/service/MarksSetPinLaw -/
def k1 : Class := { plain "com/example/thorough_paths/thoroughpaths/service/MarksSetPinLaw" (some 0) with
  accessFlags := 49
  interfaces := #[]
  cf := some (fileOf pool1 23 #[] #[{ accessFlags := 1, nameIndex := 5, descriptorIndex := 6, attributes := #[] }, { accessFlags := 9, nameIndex := 27, descriptorIndex := 28, attributes := #[] }] 49 2 #[] #[])
  fields := #[]
  methods := #[k1m0, k1m1]
  instanceTypes := #[]
  staticTypes := #[]
  resolved := Array.replicate 32 none
  statics := none }

def pool2 : Array CpInfo := pool [(1, .methodref 2 3), (0, .class_ 4), (0, .nameAndType 5 6), (0, u "java/lang/Object"), (0, u "<init>"), (0, u "()V"), (0, .fieldref 8 9), (0, .class_ 10), (0, .nameAndType 11 12), (0, u "com/example/thorough_paths/thoroughpaths/service/Marks"), (0, u "words"), (0, u "[J"), (0, .long 18446744073709551615), (13, u "(I)V"), (2, u "get"), (0, u "(I)Z"), (1, u "set"), (1, u "(II)V")] 3

def k2c0 : Code := { maxStack := 3, maxLocals := 2, code := prog_96_method_1_code, exceptionTable := #[], attributes := #[] }
def k2m0 : Method := { name := "<init>", desc := "(I)V", sig := { parameters := [.int], returnType := none }, accessFlags := 0, code := some k2c0 }
def k2c1 : Code := { maxStack := 5, maxLocals := 2, code := prog_96_method_2_code, exceptionTable := #[], attributes := #[] }
def k2m1 : Method := { name := "get", desc := "(I)Z", sig := { parameters := [.int], returnType := some .boolean }, accessFlags := 0, code := some k2c1 }
def k2c2 : Code := { maxStack := 7, maxLocals := 2, code := prog_96_method_3_code, exceptionTable := #[], attributes := #[] }
def k2m2 : Method := { name := "set", desc := "(I)V", sig := { parameters := [.int], returnType := none }, accessFlags := 0, code := some k2c2 }
def k2c3 : Code := { maxStack := 8, maxLocals := 10, code := prog_96_method_5_code, exceptionTable := #[], attributes := #[] }
def k2m3 : Method := { name := "set", desc := "(II)V", sig := { parameters := [.int, .int], returnType := none }, accessFlags := 0, code := some k2c3 }
/-- com/example/thorough_paths/thoroughpaths/service/Marks -/
def k2 : Class := { plain "com/example/thorough_paths/thoroughpaths/service/Marks" (some 0) with
  accessFlags := 48
  interfaces := #[]
  cf := some (fileOf pool2 8 #[] #[{ accessFlags := 0, nameIndex := 5, descriptorIndex := 27, attributes := #[] }, { accessFlags := 0, nameIndex := 30, descriptorIndex := 31, attributes := #[] }, { accessFlags := 0, nameIndex := 33, descriptorIndex := 27, attributes := #[] }, { accessFlags := 0, nameIndex := 33, descriptorIndex := 35, attributes := #[] }] 48 2 #[] #[{ accessFlags := 18, nameIndex := 11, descriptorIndex := 12, attributes := #[] }])
  fields := #[{ name := "words", type := (.array .long), accessFlags := 18, slot := 0, constantValue := 0 }]
  methods := #[k2m0, k2m1, k2m2, k2m3]
  instanceTypes := #[(.array .long)]
  staticTypes := #[]
  resolved := Array.replicate 39 none
  statics := none }

def pool3 : Array CpInfo := pool [(1, u "java/lang/Cloneable"), (0, .class_ 1), (0, u "java/lang/Object"), (0, .class_ 3)] 3

/-- java/lang/Cloneable -/
def k3 : Class := { plain "java/lang/Cloneable" (some 0) with
  accessFlags := 1537
  interfaces := #[]
  cf := some (fileOf pool3 2 #[] #[] 1537 4 #[] #[])
  fields := #[]
  methods := #[]
  instanceTypes := #[]
  staticTypes := #[]
  resolved := Array.replicate 8 none
  statics := none }

def pool4 : Array CpInfo := pool [(1, u "java/io/Serializable"), (0, .class_ 1), (0, u "java/lang/Object"), (0, .class_ 3)] 3

/-- java/io/Serializable -/
def k4 : Class := { plain "java/io/Serializable" (some 0) with
  accessFlags := 1537
  interfaces := #[]
  cf := some (fileOf pool4 2 #[] #[] 1537 4 #[] #[])
  fields := #[]
  methods := #[]
  instanceTypes := #[]
  staticTypes := #[]
  resolved := Array.replicate 8 none
  statics := none }

/-- the primitive byte -/
def k5 : Class := { plain "byte" none with kind := .primitive 'B', accessFlags := 0x411 }
/-- [B -/
def k6 : Class := { plain "[B" (some 0) with kind := .array 5 .byte, interfaces := #[3, 4], accessFlags := 1041 }

/-- the primitive int -/
def k7 : Class := { plain "int" none with kind := .primitive 'I', accessFlags := 0x411 }
/-- [I -/
def k8 : Class := { plain "[I" (some 0) with kind := .array 7 .int, interfaces := #[3, 4], accessFlags := 1041 }

/-- the primitive long -/
def k9 : Class := { plain "long" none with kind := .primitive 'J', accessFlags := 0x411 }
/-- [J -/
def k10 : Class := { plain "[J" (some 0) with kind := .array 9 .long, interfaces := #[3, 4], accessFlags := 1041 }

def heap : Heap := #[]
def classes : Array Class := #[k0, k1, k2, k3, k4, k5, k6, k7, k8, k9, k10]
def interned : List (Array UInt16 × Addr) := []
def slotsUsed : Nat := 0
def theMethod : MethodId := ⟨1, 1⟩
def args0 : Array Value := #[.int 5, .int 7, .int 9, .int 1]
def aboutOver (below : List Frame) : State where
  vm := { classes := classes, interned := interned.toArray }
  heap := heap
  slotsUsed := slotsUsed
  threads := #[{ frames := .invoking theMethod args0 :: below }]
def below0 : List Frame := [.native { method := ⟨0, 0⟩, args := #[] }]
def about1 : State := aboutOver below0
def p0 : Program := .bare "" "" ""
def e0 : Env := launch0.env 0 0 0
theorem w_frames : about1.frames = Frame.invoking theMethod args0 :: below0 := rfl
set_option maxRecDepth 65536 in
theorem w_args : argsFit about1.vm theMethod args0 = true := by decide +kernel
set_option maxRecDepth 65536 in
theorem w_heap : heapFits about1 = true := by decide +kernel
set_option maxRecDepth 65536 in
theorem w_runnable : about1.curStatus? = some .runnable := by decide +kernel
set_option maxRecDepth 65536 in
theorem w_alone : about1.alone = true := by decide +kernel
set_option maxRecDepth 65536 in
theorem w_named : about1.methodNamed? x = some theMethod := by decide +kernel
set_option maxRecDepth 65536 in
theorem w_hears : about1.hears theMethod below0 = true := by decide +kernel
set_option maxRecDepth 65536 in
theorem w_ripe : about1.ripe theMethod args0 below0 = true := by decide +kernel
theorem w_running : about1.status = .running := rfl
set_option maxRecDepth 65536 in
theorem w_room : about1.hasRoom e0.platform room_1 = true :=
  launch0.hasRoom_least _ room_1 (by decide +kernel) (by decide +kernel) (by decide +kernel) (by decide +kernel) (by decide +kernel) (by decide +kernel)
theorem allAtoms_all (ts : List Jvm.Cond) (a : Array Jvm.Value) (st : Jvm.State) : (allAtoms ts).before a st = ts.all (fun c => c.before a st) := by
  induction ts with
  | nil => rfl
  | cons c t ih =>
    show (Jvm.Cond.and c (allAtoms t)).before a st = _
    rw [Jvm.Cond.before_and, ih, List.all_cons]
def words1 : List Jvm.Cond := Jvm.Cond.code x code maxLocals ret :: tables_1
/-- a 'code' word, met by the world's own term for the bytes: nothing is compared byte by byte -/
theorem code_word {y : MethodName} {bytes : ByteArray} {mx : Nat} {rt : Option FieldType} {a : Array Value} {s : State} {m : MethodId} {meth : Method} {c : Code} (h1 : s.methodNamed? y = some m) (h2 : s.vm.method? m = some meth) (h3 : meth.code = some c) (h4 : c.code = bytes)
    (h5 : (c.maxLocals == mx && c.exceptionTable.isEmpty && decide (c.maxStack ≤ mostOperands) && decide (meth.sig.returnType = rt) && !meth.locks && decide (parseMethodDescriptor y.desc = some meth.sig)) = true) : (Jvm.Cond.code y bytes mx rt).before a s = true := by
  simp only [Bool.and_eq_true, beq_iff_eq, Bool.not_eq_true', decide_eq_true_eq] at h5
  obtain ⟨⟨⟨⟨⟨g1, g2⟩, g3⟩, g4⟩, g5⟩, g6⟩ := h5
  simp [Cond.before, Cond.holds, Cond.value, h1, h2, h3, h4, g1, g2, g3, g4, g5, g6]
def isCode : Jvm.Cond → Bool
  | .code _ _ _ _ => true
  | _ => false
theorem all_split {L : List Jvm.Cond} {P : Jvm.Cond → Bool} (h1 : L.all (fun c => isCode c || P c) = true) (h2 : ∀ c ∈ L.filter isCode, P c = true) : L.all P = true := by
  refine List.all_eq_true.mpr fun c hc => ?_
  have h := List.all_eq_true.mp h1 c hc
  rcases Bool.eq_false_or_eq_true (isCode c) with hi | hi
  · exact h2 c (List.mem_filter.mpr ⟨hc, hi⟩)
  · simpa [hi] using h
set_option maxRecDepth 65536 in
theorem w_c0 : (Jvm.Cond.code x code maxLocals ret).before args0 about1 = true := code_word (m := ⟨1, 1⟩) (meth := k1m1) (c := k1c1) (by decide +kernel) rfl rfl rfl (by decide +kernel)
set_option maxRecDepth 65536 in
theorem w_c1 : (Jvm.Cond.code ({ cls := "com/example/thorough_paths/thoroughpaths/service/Marks", name := "<init>", desc := "(I)V" } : Jvm.MethodName) prog_96_method_1_code (2 : Nat) (Option.none : Option Jvm.ClassFile.FieldType)).before args0 about1 = true := code_word (m := ⟨2, 0⟩) (meth := k2m0) (c := k2c0) (by decide +kernel) rfl rfl rfl (by decide +kernel)
set_option maxRecDepth 65536 in
theorem w_c2 : (Jvm.Cond.code ({ cls := "java/lang/Object", name := "<init>", desc := "()V" } : Jvm.MethodName) object_method_1_code (1 : Nat) (Option.none : Option Jvm.ClassFile.FieldType)).before args0 about1 = true := code_word (m := ⟨0, 0⟩) (meth := k0m0) (c := k0c0) (by decide +kernel) rfl rfl rfl (by decide +kernel)
set_option maxRecDepth 65536 in
theorem w_c3 : (Jvm.Cond.code ({ cls := "com/example/thorough_paths/thoroughpaths/service/Marks", name := "set", desc := "(I)V" } : Jvm.MethodName) prog_96_method_3_code (2 : Nat) (Option.none : Option Jvm.ClassFile.FieldType)).before args0 about1 = true := code_word (m := ⟨2, 2⟩) (meth := k2m2) (c := k2c2) (by decide +kernel) rfl rfl rfl (by decide +kernel)
set_option maxRecDepth 65536 in
theorem w_c4 : (Jvm.Cond.code ({ cls := "com/example/thorough_paths/thoroughpaths/service/Marks", name := "set", desc := "(II)V" } : Jvm.MethodName) prog_96_method_5_code (10 : Nat) (Option.none : Option Jvm.ClassFile.FieldType)).before args0 about1 = true := code_word (m := ⟨2, 3⟩) (meth := k2m3) (c := k2c3) (by decide +kernel) rfl rfl rfl (by decide +kernel)
set_option maxRecDepth 65536 in
theorem w_c5 : (Jvm.Cond.code ({ cls := "com/example/thorough_paths/thoroughpaths/service/Marks", name := "get", desc := "(I)Z" } : Jvm.MethodName) prog_96_method_2_code (2 : Nat) (Option.some Jvm.ClassFile.FieldType.boolean)).before args0 about1 = true := code_word (m := ⟨2, 1⟩) (meth := k2m1) (c := k2c1) (by decide +kernel) rfl rfl rfl (by decide +kernel)
def codes1 : List Jvm.Cond := [Jvm.Cond.code x code maxLocals ret, Jvm.Cond.code ({ cls := "com/example/thorough_paths/thoroughpaths/service/Marks", name := "<init>", desc := "(I)V" } : Jvm.MethodName) prog_96_method_1_code (2 : Nat) (Option.none : Option Jvm.ClassFile.FieldType), Jvm.Cond.code ({ cls := "java/lang/Object", name := "<init>", desc := "()V" } : Jvm.MethodName) object_method_1_code (1 : Nat) (Option.none : Option Jvm.ClassFile.FieldType), Jvm.Cond.code ({ cls := "com/example/thorough_paths/thoroughpaths/service/Marks", name := "set", desc := "(I)V" } : Jvm.MethodName) prog_96_method_3_code (2 : Nat) (Option.none : Option Jvm.ClassFile.FieldType), Jvm.Cond.code ({ cls := "com/example/thorough_paths/thoroughpaths/service/Marks", name := "set", desc := "(II)V" } : Jvm.MethodName) prog_96_method_5_code (10 : Nat) (Option.none : Option Jvm.ClassFile.FieldType), Jvm.Cond.code ({ cls := "com/example/thorough_paths/thoroughpaths/service/Marks", name := "get", desc := "(I)Z" } : Jvm.MethodName) prog_96_method_2_code (2 : Nat) (Option.some Jvm.ClassFile.FieldType.boolean)]
set_option maxRecDepth 65536 in
theorem codes_eq : words1.filter isCode = codes1 := rfl
theorem w_codes : ∀ c ∈ words1.filter isCode, c.before args0 about1 = true := by
  rw [codes_eq]
  intro c hc
  simp only [codes1, List.mem_cons, List.not_mem_nil, or_false] at hc
  rcases hc with rfl | rfl | rfl | rfl | rfl | rfl
  · exact w_c0
  · exact w_c1
  · exact w_c2
  · exact w_c3
  · exact w_c4
  · exact w_c5
set_option maxRecDepth 65536 in
theorem w_t1 : (words1.take 24).all (fun c => isCode c || c.before args0 about1) = true := by decide +kernel
set_option maxRecDepth 65536 in
theorem w_t2 : (words1.drop 24).all (fun c => isCode c || c.before args0 about1) = true := by decide +kernel
theorem w_tables : (allAtoms (Jvm.Cond.code x code maxLocals ret :: tables_1)).before args0 about1 = true := by
  rw [allAtoms_all]
  show words1.all (fun c => c.before args0 about1) = true
  refine all_split ?_ w_codes
  rw [← List.take_append_drop 24 words1, List.all_append, w_t1, w_t2]
  rfl
set_option maxRecDepth 65536 in
theorem w_case : (Jvm.Cond.and given_1 narrow_1).before args0 about1 = true := by decide +kernel
theorem w_applies : (headSpec (Jvm.Cond.code x code maxLocals ret :: tables_1) room_1).applies x e0.platform about1 = true :=
  (Spec.applies_iff w_frames).mpr ⟨w_running, w_runnable, w_alone, w_named, w_hears, w_ripe, w_room, w_tables⟩
theorem atStart : AtStart classFile x code maxLocals ret World_1 tables_1 room_1 Calls_1 rest_1 Pre_1 launch0 p0 e0 about1 theMethod args0 below0 :=
  ⟨lists_1, trivial, launch0.admits_env _ _ _, launch0.least_env, fairChoices_fair.cas, fairChoices_fair.clock, w_frames, w_args, w_heap, w_applies, trivial, trivial, w_case⟩
end start1
theorem witness_1 : WitnessClaimed_1 := ⟨start1.p0, start1.e0, start1.about1, start1.theMethod, start1.args0, start1.below0, start1.atStart⟩
end Jvm.Pilot.@@N@@
