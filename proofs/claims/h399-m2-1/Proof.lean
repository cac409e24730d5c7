import JvmDerived
import JvmDerived.Pilot.@@N@@Statement
import JvmDerived.Pilot.@@N@@Code
set_option linter.unusedVariables false
set_option linter.unusedSimpArgs false
namespace Jvm.Pilot.@@N@@
open Jvm Jvm.ClassFile Sem Op Lib Jvm.Free Jvm.Stand Jvm.LawKit Jvm.RoadKit Bundle Jvm.Pilot.@@N@@.Jvm.D
/-! OWN KIT 1: the fresh part of the heap: a list of (address, what its cell is) -/
abbrev Hp : Type := List (Addr × (Cell → Prop))
def Own (Z : State) (h : Heap) (M : Hp) : Prop := Ext Z.heap h ∧ (∀ (i : Nat) x, M[i]? = some x → Z.heap.size ≤ x.1 ∧ ∃ c : Cell, h[x.1]? = some c ∧ x.2 c) ∧ ∀ (i j : Nat) x y, M[i]? = some x → M[j]? = some y → x.1 = y.1 → i = j
theorem Own.ch {Z : State} {h h' : Heap} {M : Hp} {i : Nat} {a : Addr} {P P' : Cell → Prop} (O : Own Z h M) (hi : M[i]? = some (a, P)) (hs : h.size ≤ h'.size) (hk : ∀ (x : Addr) (c : Cell), h[x]? = some c → x ≠ a → h'[x]? = some c) (hc : ∃ c : Cell, h'[a]? = some c ∧ P' c) : Own Z h' (M.set i (a, P')) := by
  obtain ⟨o1, o2, o3⟩ := O
  have hil : i < M.length := (List.getElem?_eq_some_iff.mp hi).1
  have key : ∀ (j : Nat) x, (M.set i (a, P'))[j]? = some x → (j = i ∧ x = (a, P')) ∨ (j ≠ i ∧ M[j]? = some x) := by
    intro j x hx
    by_cases e : j = i
    · subst e
      rw [List.getElem?_set_self hil] at hx
      exact Or.inl ⟨rfl, (Option.some.inj hx).symm⟩
    · rw [List.getElem?_set_ne (Ne.symm e)] at hx
      exact Or.inr ⟨e, hx⟩
  refine ⟨⟨Nat.le_trans o1.1 hs, fun x c hx => hk x c (o1.2 x c hx) ?_⟩, fun j x hx => ?_, fun j j' x y hx hy e => ?_⟩
  · have h1 := (Array.getElem?_eq_some_iff.mp hx).1
    have h2 := (o2 i _ hi).1
    exact Nat.ne_of_lt (Nat.lt_of_lt_of_le h1 h2)
  · rcases key j x hx with ⟨rfl, rfl⟩ | ⟨ne, hx'⟩
    · exact ⟨(o2 j _ hi).1, hc⟩
    · obtain ⟨q1, c, q2, q3⟩ := o2 j x hx'
      exact ⟨q1, c, hk _ _ q2 (fun e => ne (o3 j i _ _ hx' hi e)), q3⟩
  · rcases key j x hx with ⟨rfl, rfl⟩ | ⟨ne, hx'⟩ <;> rcases key j' y hy with ⟨rfl, rfl⟩ | ⟨ne', hy'⟩
    · rfl
    · exact o3 _ _ _ _ hi hy' e
    · exact o3 _ _ _ _ hx' hi e
    · exact o3 _ _ _ _ hx' hy' e
theorem Own.upd {Z : State} {h h' : Heap} {M : Hp} {i : Nat} {a : Addr} {P P' : Cell → Prop} {sl : Nat} {v : Value} (O : Own Z h M) (hi : M[i]? = some (a, P)) (W : Wr h h' a sl v) (q : ∀ c : Cell, h[a]? = some c → P c → P' (c.setSlot sl v)) : Own Z h' (M.set i (a, P')) := by
  refine O.ch hi (Nat.le_of_eq W.size.symm) (fun x c hx ne => ?_) ?_
  · obtain ⟨c', e1, -, -, -, e5, -⟩ := wr_at W hx
    rw [e1, e5 ne]
  · obtain ⟨-, c, h1, h2⟩ := O.2.1 i _ hi
    obtain ⟨c', e1, -, -, -, -, -, e7⟩ := wr_at W h1
    exact ⟨c', e1, by rw [(e7 rfl).1]; exact q c h1 h2⟩
theorem Own.new {Z : State} {h h' : Heap} {M : Hp} {P : Cell → Prop} {c : Cell} (O : Own Z h M) (E : Ext h h') (hc : h'[h.size]? = some c) (q : P c) : Own Z h' ((h.size, P) :: M) := by
  obtain ⟨o1, o2, o3⟩ := O
  have lt : ∀ (j : Nat) x, M[j]? = some x → x.1 < h.size := fun j x hx => by
    obtain ⟨-, c, h1, -⟩ := o2 j x hx
    exact (Array.getElem?_eq_some_iff.mp h1).1
  refine ⟨⟨Nat.le_trans o1.1 E.1, fun x c hx => E.2 _ _ (o1.2 x c hx)⟩, fun j x hx => ?_, fun j j' x y hx hy e => ?_⟩
  · cases j with
    | zero => cases hx; exact ⟨o1.1, c, hc, q⟩
    | succ j => obtain ⟨q1, c, q2, q3⟩ := o2 j x hx; exact ⟨q1, c, E.2 _ _ q2, q3⟩
  · cases j <;> cases j'
    · rfl
    · cases hx; exact absurd e (Nat.ne_of_gt (lt _ _ hy))
    · cases hy; exact absurd e (Nat.ne_of_lt (lt _ _ hx))
    · exact congrArg _ (o3 _ _ _ _ hx hy e)
theorem Own.perm {Z : State} {h : Heap} {M M' : Hp} (O : Own Z h M) (p : M.Perm M') : Own Z h M' := by
  obtain ⟨o1, o2, o3⟩ := O
  have nd : (M.map Prod.fst).Nodup := by
    rw [List.nodup_iff_pairwise_ne, List.pairwise_iff_getElem]
    intro i j hi hj lt e
    simp only [List.length_map] at hi hj
    simp only [List.getElem_map] at e
    exact absurd (o3 i j _ _ (List.getElem?_eq_getElem hi) (List.getElem?_eq_getElem hj) e) (Nat.ne_of_lt lt)
  have nd' : (M'.map Prod.fst).Nodup := (p.map _).nodup_iff.mp nd
  refine ⟨o1, fun i x hx => ?_, fun i j x y hx hy e => ?_⟩
  · obtain ⟨j, hj⟩ := List.mem_iff_getElem?.mp (p.mem_iff.mpr (List.mem_of_getElem? hx))
    exact o2 j x hj
  · rw [List.nodup_iff_pairwise_ne, List.pairwise_iff_getElem] at nd'
    obtain ⟨hi, rfl⟩ := List.getElem?_eq_some_iff.mp hx
    obtain ⟨hj, rfl⟩ := List.getElem?_eq_some_iff.mp hy
    rcases Nat.lt_trichotomy i j with lt | rfl | lt
    · exact (nd' i j (by simpa using hi) (by simpa using hj) lt (by simpa using e)).elim
    · rfl
    · exact (nd' j i (by simpa using hj) (by simpa using hi) lt (by simpa using e.symm)).elim
theorem Own.ne {Z : State} {h : Heap} {M : Hp} {i j : Nat} {a b : Addr} {P P' : Cell → Prop} (O : Own Z h M) (hi : M[i]? = some (a, P)) (hj : M[j]? = some (b, P')) (ne : i ≠ j) : a ≠ b := fun e => ne (O.2.2 i j _ _ hi hj e)
/-! what a cell is: an object of the class C with these fields; an array of ints (bytes, booleans ..), an array of longs -/
abbrev Fd : Type := String × String × String × Value
def Apart (Z : State) (fs : List Fd) : Prop := ∀ (i j : Nat) f g, fs[i]? = some f → fs[j]? = some g → Jvm.RoadKit.slotOf Z f.1 f.2.1 f.2.2.1 = Jvm.RoadKit.slotOf Z g.1 g.2.1 g.2.2.1 → i = j
def Obj (Z : State) (C : String) (fs : List Fd) (c : Cell) : Prop := (∀ (h : Heap) (a : Addr), h[a]? = some c → Exa Z h a C ∧ ∀ (i : Nat) f, fs[i]? = some f → Fld Z h a f.1 f.2.1 f.2.2.1 f.2.2.2) ∧ Apart Z fs
def ArI (Z : State) (ty : FieldType) (vs : List Int32) (c : Cell) : Prop := Z.isArrayOf c ty ∧ c.vm ≠ .unknown ∧ c.slots = (vs.map Value.int).toArray ∧ vs.length < 2 ^ 31 ∧ ∀ x ∈ vs, fits ty (.int x) = true
def ArL (Z : State) (vs : List Int64) (c : Cell) : Prop := Z.isArrayOf c .long ∧ c.vm ≠ .unknown ∧ c.slots = (vs.map Value.long).toArray ∧ vs.length < 2 ^ 31
theorem exa_at_cell {Z : State} {h h' : Heap} {a a' : Addr} {C : String} {c : Cell} (E : Exa Z h a C) (hc : h[a]? = some c) (hc' : h'[a']? = some c) : Exa Z h' a' C := by
  obtain ⟨c1, k, h1, r⟩ := E
  cases h1.symm.trans hc
  exact ⟨_, k, hc', r⟩
theorem fld_at_cell {Z : State} {h h' : Heap} {a a' : Addr} {C n d : String} {v : Value} {c : Cell} (E : Fld Z h a C n d v) (hc : h[a]? = some c) (hc' : h'[a']? = some c) : Fld Z h' a' C n d v := by
  obtain ⟨c1, cf, k, i, f, h1, r⟩ := E
  cases h1.symm.trans hc
  exact ⟨_, cf, k, i, f, hc', r⟩
theorem Obj.put {Z : State} {C O n d : String} {fs : List Fd} {c : Cell} {j : Nat} {v w : Value} (B : Obj Z C fs c) (hj : fs[j]? = some (O, n, d, w)) {h h' : Heap} {a : Addr} (hc : h[a]? = some c) (W : Wr h h' a (Jvm.RoadKit.slotOf Z O n d) v) : Obj Z C (fs.set j (O, n, d, v)) (c.setSlot (Jvm.RoadKit.slotOf Z O n d) v) := by
  obtain ⟨b1, b2⟩ := B
  have hl : j < fs.length := (List.getElem?_eq_some_iff.mp hj).1
  have key : ∀ (i : Nat) x, (fs.set j (O, n, d, v))[i]? = some x → (i = j ∧ x = (O, n, d, v)) ∨ (i ≠ j ∧ fs[i]? = some x) := by
    intro i x hx
    by_cases e : i = j
    · subst e; rw [List.getElem?_set_self hl] at hx; exact Or.inl ⟨rfl, (Option.some.inj hx).symm⟩
    · rw [List.getElem?_set_ne (Ne.symm e)] at hx; exact Or.inr ⟨e, hx⟩
  have hnew : h'[a]? = some (c.setSlot (Jvm.RoadKit.slotOf Z O n d) v) := by
    obtain ⟨c', e1, -, -, -, -, -, e7⟩ := wr_at W hc
    rw [e1, (e7 rfl).1]
  refine ⟨fun h2 a2 h2c => ⟨exa_at_cell ((b1 h a hc).1.wr W) hnew h2c, fun i f hf => ?_⟩, fun i i' f g hf hg e => ?_⟩
  · rcases key i f hf with ⟨rfl, rfl⟩ | ⟨ne, hf'⟩
    · exact fld_at_cell (((b1 h a hc).2 i _ hj).same W) hnew h2c
    · exact fld_at_cell (((b1 h a hc).2 i _ hf').other W (Or.inr fun e => ne (b2 i j _ _ hf' hj e))) hnew h2c
  · rcases key i f hf with ⟨rfl, rfl⟩ | ⟨ne, hf'⟩ <;> rcases key i' g hg with ⟨rfl, rfl⟩ | ⟨ne', hg'⟩
    · rfl
    · exact b2 _ _ _ _ hj hg' e
    · exact b2 _ _ _ _ hf' hj e
    · exact b2 _ _ _ _ hf' hg' e
theorem ArI.arr {Z : State} {ty : FieldType} {vs : List Int32} {c : Cell} {h : Heap} {a : Addr} (B : ArI Z ty vs c) (hc : h[a]? = some c) : Arr Z h a c ty := ⟨hc, B.1, B.2.1⟩
theorem ArL.arr {Z : State} {vs : List Int64} {c : Cell} {h : Heap} {a : Addr} (B : ArL Z vs c) (hc : h[a]? = some c) : Arr Z h a c .long := ⟨hc, B.1, B.2.1⟩
theorem ArI.size {Z : State} {ty : FieldType} {vs : List Int32} {c : Cell} (B : ArI Z ty vs c) : c.slots.size = vs.length := by rw [B.2.2.1]; simp
theorem ArL.size {Z : State} {vs : List Int64} {c : Cell} (B : ArL Z vs c) : c.slots.size = vs.length := by rw [B.2.2.1]; simp
theorem ArI.put {Z : State} {ty : FieldType} {vs : List Int32} {c : Cell} (B : ArI Z ty vs c) (j : Nat) {x : Int32} (hx : fits ty (.int x) = true) : ArI Z ty (vs.set j x) (c.setSlot j (.int x)) := by
  refine ⟨B.1, B.2.1, ?_, by simpa using B.2.2.2.1, fun y hy => ?_⟩
  · show c.slots.setIfInBounds j (.int x) = _
    rw [B.2.2.1]; apply Array.ext'; simp [List.map_set]
  · rcases List.mem_or_eq_of_mem_set hy with h | rfl
    · exact B.2.2.2.2 y h
    · exact hx
theorem ArL.put {Z : State} {vs : List Int64} {c : Cell} (B : ArL Z vs c) (j : Nat) {x : Int64} : ArL Z (vs.set j x) (c.setSlot j (.long x)) := by
  refine ⟨B.1, B.2.1, ?_, by simpa using B.2.2.2⟩
  show c.slots.setIfInBounds j (.long x) = _
  rw [B.2.2.1]; apply Array.ext'; simp [List.map_set]
/-! OWN KIT 2: where a run stands, and how it ends -/
abbrev Cx : Type := Program × Launch × Env × Room × State × MethodId × Array Value × List Frame × Method × Code × (Option Value → Hp → Prop)
def Wk (Z : State) : Cx → State → Nat → Nat → Hp → Prop
  | (p, l, e, R, s, m, args, below, meth, c, _), T, cn, sn, M => ∃ locs, Stand p l e R s m args below meth c T locs cn sn ∧ Fr Z.heap.size locs ∧ Own Z T.heap M
def Ends (Z : State) : Cx → State → Nat → Array Slot → List Value → Prop
  | (p, l, e, R, s, m, args, below, meth, c, Q), T, pc, Ls, st => ∃ t o, Steps p.tables e below (T.setTop (mkF m pc Ls st)) t ∧ t.status = .running ∧ Ended t below o ∧ ∃ v L, o = .returned v ∧ (Fr Z.heap.size L ∧ ∃ M, Q v M ∧ Own Z t.heap M) ∧ FrameEnd s o t L R.cells R.slots
/-- from this frame, over such a heap, the run ends as Q says -/
def Go (Z : State) (k : Cx) (cn sn : Nat) (M : Hp) (pc : Nat) (Ls : Array Slot) (st : List Value) : Prop := ∀ T, Wk Z k T cn sn M → Ends Z k T pc Ls st
def Tb (Z : State) : Prop := ∃ a0, ∀ d ∈ tables_1, d.before a0 Z = true
def Ok (Z : State) (k : Cx) (R : Room) (Q : Option Value → Hp → Prop) (y : MethodName) (b : ByteArray) (ml : Nat) (rt : Option FieldType) : Prop :=
  match k with
  | (p, l, e, R', s, m, args, below, meth, c, Q') => p.tables.exec = Jvm.exec ∧ Z.Warmed39 s.vm ∧ c.code = b ∧ c.maxLocals = ml ∧ s.vm.findClass y.cls = some m.cls ∧ meth.name = y.name ∧ meth.sig.returnType = rt ∧ meth.locks = false ∧ Tb Z ∧ R' = R ∧ Q' = Q
theorem Ok.tb {Z : State} {k : Cx} {R : Room} {Q : Option Value → Hp → Prop} {y : MethodName} {b : ByteArray} {ml : Nat} {rt : Option FieldType} (H : Ok Z k R Q y b ml rt) : Tb Z := by
  obtain ⟨p, l, e, R', s, m, args, below, meth, c, Q'⟩ := k
  exact H.2.2.2.2.2.2.2.2.1
section Kit
variable {ty : FieldType} {Z : State} {k : Cx} {R : Room} {Q : Option Value → Hp → Prop} {y : MethodName} {b : ByteArray} {ml : Nat} {rt : Option FieldType} {cn sn : Nat} {M : Hp} {pc pc' : Nat} {Ls : Array Slot} {st : List Value}
theorem mem {i : Nat} {d : Jvm.Cond} (h : tables_1[i]? = some d) : d ∈ tables_1 := List.mem_of_getElem? h
theorem Go.more {cn' sn' : Nat} (hc : cn ≤ cn') (hs : sn ≤ sn') (g : Go Z k cn' sn' M pc Ls st) : Go Z k cn sn M pc Ls st := by
  obtain ⟨p, l, e, R, s, m, args, below, meth, c, Q⟩ := k
  intro T w
  obtain ⟨locs, X, F, O⟩ := w
  exact g T ⟨locs, X.more hc hs, F, O⟩
theorem Go.perm {M' : Hp} (p : M.Perm M') (g : Go Z k cn sn M' pc Ls st) : Go Z k cn sn M pc Ls st := by
  obtain ⟨p', l, e, R, s, m, args, below, meth, c, Q⟩ := k
  intro T w
  obtain ⟨locs, X, F, O⟩ := w
  exact g T ⟨locs, X, F, O.perm p⟩
theorem Go.fact {φ : Prop} (f : ∀ h, Own Z h M → φ) (g : φ → Go Z k cn sn M pc Ls st) : Go Z k cn sn M pc Ls st := by
  obtain ⟨p', l, e, R, s, m, args, below, meth, c, Q⟩ := k
  intro T w
  have w' := w
  obtain ⟨locs, X, F, O⟩ := w
  exact g (f _ O) T w'
theorem Go.cast {pc2 : Nat} {Ls2 : Array Slot} {st2 : List Value} {M2 : Hp} (h1 : pc = pc2) (h2 : Ls = Ls2) (h3 : st = st2) (h4 : M = M2) (g : Go Z k cn sn M2 pc2 Ls2 st2) : Go Z k cn sn M pc Ls st := by
  subst h1 h2 h3 h4; exact g
theorem s_iloadn (H : Ok Z k R Q y b ml rt) {i : Fin 4} {z : Int32} (hd : decode b pc = .ok (.iload_n i, 1)) (hl : Ls[i.val]? = some (.val (.int z))) (hp : pc + 1 = pc') (g : Go Z k cn sn M pc' Ls (.int z :: st)) : Go Z k cn sn M pc Ls (st) := by
  obtain ⟨p, l, e, R', s, m, args, below, meth, c, Q'⟩ := k
  obtain ⟨hx, hZ, hby, -⟩ := H
  subst hp
  intro T w
  have w' := w
  obtain ⟨locs, X, F, O⟩ := w
  obtain ⟨t, o, hs, r⟩ := g T w'
  exact ⟨t, o, XS.iloadN X.here hx rfl (hb hby hd) hl hs, r⟩
theorem s_iload (H : Ok Z k R Q y b ml rt) {i : Nat} {z : Int32} (hd : decode b pc = .ok (.iload i, 2)) (hl : Ls[i]? = some (.val (.int z))) (hp : pc + 2 = pc') (g : Go Z k cn sn M pc' Ls (.int z :: st)) : Go Z k cn sn M pc Ls (st) := by
  obtain ⟨p, l, e, R', s, m, args, below, meth, c, Q'⟩ := k
  obtain ⟨hx, hZ, hby, -⟩ := H
  subst hp
  intro T w
  have w' := w
  obtain ⟨locs, X, F, O⟩ := w
  obtain ⟨t, o, hs, r⟩ := g T w'
  exact ⟨t, o, XS.iload X.here hx rfl (hb hby hd) hl hs, r⟩
theorem s_istoren (H : Ok Z k R Q y b ml rt) {i : Fin 4} {x : Int32} {L' : Int32 → Array Slot} (hd : decode b pc = .ok (.istore_n i, 1)) (hl : ∀ z, storeLocals Ls i.val (.int z) = some (L' z)) (hp : pc + 1 = pc') (g : ∀ z, z = x → Go Z k cn sn M pc' (L' z) st) : Go Z k cn sn M pc Ls (.int x :: st) := by
  obtain ⟨p, l, e, R', s, m, args, below, meth, c, Q'⟩ := k
  obtain ⟨hx, hZ, hby, -⟩ := H
  subst hp
  intro T w
  have w' := w
  obtain ⟨locs, X, F, O⟩ := w
  obtain ⟨t, o, hs, r⟩ := g x rfl T w'
  exact ⟨t, o, XS.istoreN X.here hx rfl (hb hby hd) rfl (hl x) hs, r⟩
theorem s_istore (H : Ok Z k R Q y b ml rt) {i : Nat} {x : Int32} {L' : Int32 → Array Slot} (hd : decode b pc = .ok (.istore i, 2)) (hl : ∀ z, storeLocals Ls i (.int z) = some (L' z)) (hp : pc + 2 = pc') (g : ∀ z, z = x → Go Z k cn sn M pc' (L' z) st) : Go Z k cn sn M pc Ls (.int x :: st) := by
  obtain ⟨p, l, e, R', s, m, args, below, meth, c, Q'⟩ := k
  obtain ⟨hx, hZ, hby, -⟩ := H
  subst hp
  intro T w
  have w' := w
  obtain ⟨locs, X, F, O⟩ := w
  obtain ⟨t, o, hs, r⟩ := g x rfl T w'
  exact ⟨t, o, XS.istore X.here hx rfl (hb hby hd) rfl (hl x) hs, r⟩
theorem s_lloadn (H : Ok Z k R Q y b ml rt) {i : Fin 4} {z : Int64} (hd : decode b pc = .ok (.lload_n i, 1)) (hl : Ls[i.val]? = some (.val (.long z))) (hp : pc + 1 = pc') (g : Go Z k cn sn M pc' Ls (.long z :: st)) : Go Z k cn sn M pc Ls (st) := by
  obtain ⟨p, l, e, R', s, m, args, below, meth, c, Q'⟩ := k
  obtain ⟨hx, hZ, hby, -⟩ := H
  subst hp
  intro T w
  have w' := w
  obtain ⟨locs, X, F, O⟩ := w
  obtain ⟨t, o, hs, r⟩ := g T w'
  exact ⟨t, o, XS.lloadN X.here hx rfl (hb hby hd) hl hs, r⟩
theorem s_lload (H : Ok Z k R Q y b ml rt) {i : Nat} {z : Int64} (hd : decode b pc = .ok (.lload i, 2)) (hl : Ls[i]? = some (.val (.long z))) (hp : pc + 2 = pc') (g : Go Z k cn sn M pc' Ls (.long z :: st)) : Go Z k cn sn M pc Ls (st) := by
  obtain ⟨p, l, e, R', s, m, args, below, meth, c, Q'⟩ := k
  obtain ⟨hx, hZ, hby, -⟩ := H
  subst hp
  intro T w
  have w' := w
  obtain ⟨locs, X, F, O⟩ := w
  obtain ⟨t, o, hs, r⟩ := g T w'
  exact ⟨t, o, XS.lload X.here hx rfl (hb hby hd) hl hs, r⟩
theorem s_lstoren (H : Ok Z k R Q y b ml rt) {i : Fin 4} {x : Int64} {L' : Int64 → Array Slot} (hd : decode b pc = .ok (.lstore_n i, 1)) (hl : ∀ z, storeLocals Ls i.val (.long z) = some (L' z)) (hp : pc + 1 = pc') (g : ∀ z, z = x → Go Z k cn sn M pc' (L' z) st) : Go Z k cn sn M pc Ls (.long x :: st) := by
  obtain ⟨p, l, e, R', s, m, args, below, meth, c, Q'⟩ := k
  obtain ⟨hx, hZ, hby, -⟩ := H
  subst hp
  intro T w
  have w' := w
  obtain ⟨locs, X, F, O⟩ := w
  obtain ⟨t, o, hs, r⟩ := g x rfl T w'
  exact ⟨t, o, XS.lstoreN X.here hx rfl (hb hby hd) rfl (hl x) hs, r⟩
theorem s_lstore (H : Ok Z k R Q y b ml rt) {i : Nat} {x : Int64} {L' : Int64 → Array Slot} (hd : decode b pc = .ok (.lstore i, 2)) (hl : ∀ z, storeLocals Ls i (.long z) = some (L' z)) (hp : pc + 2 = pc') (g : ∀ z, z = x → Go Z k cn sn M pc' (L' z) st) : Go Z k cn sn M pc Ls (.long x :: st) := by
  obtain ⟨p, l, e, R', s, m, args, below, meth, c, Q'⟩ := k
  obtain ⟨hx, hZ, hby, -⟩ := H
  subst hp
  intro T w
  have w' := w
  obtain ⟨locs, X, F, O⟩ := w
  obtain ⟨t, o, hs, r⟩ := g x rfl T w'
  exact ⟨t, o, XS.lstore X.here hx rfl (hb hby hd) rfl (hl x) hs, r⟩
theorem s_aloadn (H : Ok Z k R Q y b ml rt) {i : Fin 4} {v : Value} (hd : decode b pc = .ok (.aload_n i, 1)) (hl : Ls[i.val]? = some (.val v)) (hv : v.isRef = true) (hp : pc + 1 = pc') (g : Go Z k cn sn M pc' Ls (v :: st)) : Go Z k cn sn M pc Ls (st) := by
  obtain ⟨p, l, e, R', s, m, args, below, meth, c, Q'⟩ := k
  obtain ⟨hx, hZ, hby, -⟩ := H
  subst hp
  intro T w
  have w' := w
  obtain ⟨locs, X, F, O⟩ := w
  obtain ⟨t, o, hs, r⟩ := g T w'
  exact ⟨t, o, XS.aloadN X.here hx rfl (hb hby hd) hl hv hs, r⟩
theorem s_aload (H : Ok Z k R Q y b ml rt) {i : Nat} {v : Value} (hd : decode b pc = .ok (.aload i, 2)) (hl : Ls[i]? = some (.val v)) (hv : v.isRef = true) (hp : pc + 2 = pc') (g : Go Z k cn sn M pc' Ls (v :: st)) : Go Z k cn sn M pc Ls (st) := by
  obtain ⟨p, l, e, R', s, m, args, below, meth, c, Q'⟩ := k
  obtain ⟨hx, hZ, hby, -⟩ := H
  subst hp
  intro T w
  have w' := w
  obtain ⟨locs, X, F, O⟩ := w
  obtain ⟨t, o, hs, r⟩ := g T w'
  exact ⟨t, o, XS.aload X.here hx rfl (hb hby hd) hl hv hs, r⟩
theorem s_astoren (H : Ok Z k R Q y b ml rt) {i : Fin 4} {v : Value} {L' : Array Slot} (hd : decode b pc = .ok (.astore_n i, 1)) (hv : v.isRef = true) (hl : storeLocals Ls i.val v = some L') (hp : pc + 1 = pc') (g : Go Z k cn sn M pc' L' (st)) : Go Z k cn sn M pc Ls (v :: st) := by
  obtain ⟨p, l, e, R', s, m, args, below, meth, c, Q'⟩ := k
  obtain ⟨hx, hZ, hby, -⟩ := H
  subst hp
  intro T w
  have w' := w
  obtain ⟨locs, X, F, O⟩ := w
  obtain ⟨t, o, hs, r⟩ := g T w'
  exact ⟨t, o, XS.astoreN X.here hx rfl (hb hby hd) rfl hv hl hs, r⟩
theorem s_astore (H : Ok Z k R Q y b ml rt) {i : Nat} {v : Value} {L' : Array Slot} (hd : decode b pc = .ok (.astore i, 2)) (hv : v.isRef = true) (hl : storeLocals Ls i v = some L') (hp : pc + 2 = pc') (g : Go Z k cn sn M pc' L' (st)) : Go Z k cn sn M pc Ls (v :: st) := by
  obtain ⟨p, l, e, R', s, m, args, below, meth, c, Q'⟩ := k
  obtain ⟨hx, hZ, hby, -⟩ := H
  subst hp
  intro T w
  have w' := w
  obtain ⟨locs, X, F, O⟩ := w
  obtain ⟨t, o, hs, r⟩ := g T w'
  exact ⟨t, o, XS.astore X.here hx rfl (hb hby hd) rfl hv hl hs, r⟩
theorem s_iconst (H : Ok Z k R Q y b ml rt) {i : Int} {z : Int32} (hd : decode b pc = .ok (.iconst i, 1)) (hz : z = Int32.ofInt i) (hp : pc + 1 = pc') (g : Go Z k cn sn M pc' Ls (.int z :: st)) : Go Z k cn sn M pc Ls (st) := by
  obtain ⟨p, l, e, R', s, m, args, below, meth, c, Q'⟩ := k
  obtain ⟨hx, hZ, hby, -⟩ := H
  subst hp
  intro T w
  have w' := w
  obtain ⟨locs, X, F, O⟩ := w
  obtain ⟨t, o, hs, r⟩ := g T w'
  exact ⟨t, o, XS.iconst X.here hx rfl (hb hby hd) (hz ▸ hs), r⟩
theorem s_bipush (H : Ok Z k R Q y b ml rt) {i : Int} {z : Int32} (hd : decode b pc = .ok (.bipush i, 2)) (hz : z = (Int8.ofInt i).toInt32) (hp : pc + 2 = pc') (g : Go Z k cn sn M pc' Ls (.int z :: st)) : Go Z k cn sn M pc Ls (st) := by
  obtain ⟨p, l, e, R', s, m, args, below, meth, c, Q'⟩ := k
  obtain ⟨hx, hZ, hby, -⟩ := H
  subst hp
  intro T w
  have w' := w
  obtain ⟨locs, X, F, O⟩ := w
  obtain ⟨t, o, hs, r⟩ := g T w'
  exact ⟨t, o, XS.bipush X.here hx rfl (hb hby hd) (hz ▸ hs), r⟩
theorem s_sipush (H : Ok Z k R Q y b ml rt) {i : Int} {z : Int32} (hd : decode b pc = .ok (.sipush i, 3)) (hz : z = (Int16.ofInt i).toInt32) (hp : pc + 3 = pc') (g : Go Z k cn sn M pc' Ls (.int z :: st)) : Go Z k cn sn M pc Ls (st) := by
  obtain ⟨p, l, e, R', s, m, args, below, meth, c, Q'⟩ := k
  obtain ⟨hx, hZ, hby, -⟩ := H
  subst hp
  intro T w
  have w' := w
  obtain ⟨locs, X, F, O⟩ := w
  obtain ⟨t, o, hs, r⟩ := g T w'
  exact ⟨t, o, XS.sipush X.here hx rfl (hb hby hd) (hz ▸ hs), r⟩
theorem s_lconst (H : Ok Z k R Q y b ml rt) {i : Fin 2} {z : Int64} (hd : decode b pc = .ok (.lconst i, 1)) (hz : z = Int64.ofNat i) (hp : pc + 1 = pc') (g : Go Z k cn sn M pc' Ls (.long z :: st)) : Go Z k cn sn M pc Ls (st) := by
  obtain ⟨p, l, e, R', s, m, args, below, meth, c, Q'⟩ := k
  obtain ⟨hx, hZ, hby, -⟩ := H
  subst hp
  intro T w
  have w' := w
  obtain ⟨locs, X, F, O⟩ := w
  obtain ⟨t, o, hs, r⟩ := g T w'
  exact ⟨t, o, XS.lconst X.here hx rfl (hb hby hd) (hz ▸ hs), r⟩
theorem s_anull (H : Ok Z k R Q y b ml rt) (hd : decode b pc = .ok (.aconst_null, 1)) (hp : pc + 1 = pc') (g : Go Z k cn sn M pc' Ls (.null :: st)) : Go Z k cn sn M pc Ls (st) := by
  obtain ⟨p, l, e, R', s, m, args, below, meth, c, Q'⟩ := k
  obtain ⟨hx, hZ, hby, -⟩ := H
  subst hp
  intro T w
  have w' := w
  obtain ⟨locs, X, F, O⟩ := w
  obtain ⟨t, o, hs, r⟩ := g T w'
  exact ⟨t, o, XS.aconstNull X.here hx rfl (hb hby hd) hs, r⟩
theorem s_iadd (H : Ok Z k R Q y b ml rt) {x u : Int32} (hd : decode b pc = .ok (.iadd, 1)) (hp : pc + 1 = pc') (g : Go Z k cn sn M pc' Ls (.int (x + u) :: st)) : Go Z k cn sn M pc Ls (.int u :: .int x :: st) := by
  obtain ⟨p, l, e, R', s, m, args, below, meth, c, Q'⟩ := k
  obtain ⟨hx, hZ, hby, -⟩ := H
  subst hp
  intro T w
  have w' := w
  obtain ⟨locs, X, F, O⟩ := w
  obtain ⟨t, o, hs, r⟩ := g T w'
  exact ⟨t, o, XS.iadd X.here hx rfl (hb hby hd) rfl hs, r⟩
theorem s_isub (H : Ok Z k R Q y b ml rt) {x u : Int32} (hd : decode b pc = .ok (.isub, 1)) (hp : pc + 1 = pc') (g : Go Z k cn sn M pc' Ls (.int (x - u) :: st)) : Go Z k cn sn M pc Ls (.int u :: .int x :: st) := by
  obtain ⟨p, l, e, R', s, m, args, below, meth, c, Q'⟩ := k
  obtain ⟨hx, hZ, hby, -⟩ := H
  subst hp
  intro T w
  have w' := w
  obtain ⟨locs, X, F, O⟩ := w
  obtain ⟨t, o, hs, r⟩ := g T w'
  exact ⟨t, o, XS.isub X.here hx rfl (hb hby hd) rfl hs, r⟩
theorem s_imul (H : Ok Z k R Q y b ml rt) {x u : Int32} (hd : decode b pc = .ok (.imul, 1)) (hp : pc + 1 = pc') (g : Go Z k cn sn M pc' Ls (.int (x * u) :: st)) : Go Z k cn sn M pc Ls (.int u :: .int x :: st) := by
  obtain ⟨p, l, e, R', s, m, args, below, meth, c, Q'⟩ := k
  obtain ⟨hx, hZ, hby, -⟩ := H
  subst hp
  intro T w
  have w' := w
  obtain ⟨locs, X, F, O⟩ := w
  obtain ⟨t, o, hs, r⟩ := g T w'
  exact ⟨t, o, XS.imul X.here hx rfl (hb hby hd) rfl hs, r⟩
theorem s_iand (H : Ok Z k R Q y b ml rt) {x u : Int32} (hd : decode b pc = .ok (.iand, 1)) (hp : pc + 1 = pc') (g : Go Z k cn sn M pc' Ls (.int (x &&& u) :: st)) : Go Z k cn sn M pc Ls (.int u :: .int x :: st) := by
  obtain ⟨p, l, e, R', s, m, args, below, meth, c, Q'⟩ := k
  obtain ⟨hx, hZ, hby, -⟩ := H
  subst hp
  intro T w
  have w' := w
  obtain ⟨locs, X, F, O⟩ := w
  obtain ⟨t, o, hs, r⟩ := g T w'
  exact ⟨t, o, XS.iand X.here hx rfl (hb hby hd) rfl hs, r⟩
theorem s_ior (H : Ok Z k R Q y b ml rt) {x u : Int32} (hd : decode b pc = .ok (.ior, 1)) (hp : pc + 1 = pc') (g : Go Z k cn sn M pc' Ls (.int (x ||| u) :: st)) : Go Z k cn sn M pc Ls (.int u :: .int x :: st) := by
  obtain ⟨p, l, e, R', s, m, args, below, meth, c, Q'⟩ := k
  obtain ⟨hx, hZ, hby, -⟩ := H
  subst hp
  intro T w
  have w' := w
  obtain ⟨locs, X, F, O⟩ := w
  obtain ⟨t, o, hs, r⟩ := g T w'
  exact ⟨t, o, XS.ior X.here hx rfl (hb hby hd) rfl hs, r⟩
theorem s_ixor (H : Ok Z k R Q y b ml rt) {x u : Int32} (hd : decode b pc = .ok (.ixor, 1)) (hp : pc + 1 = pc') (g : Go Z k cn sn M pc' Ls (.int (x ^^^ u) :: st)) : Go Z k cn sn M pc Ls (.int u :: .int x :: st) := by
  obtain ⟨p, l, e, R', s, m, args, below, meth, c, Q'⟩ := k
  obtain ⟨hx, hZ, hby, -⟩ := H
  subst hp
  intro T w
  have w' := w
  obtain ⟨locs, X, F, O⟩ := w
  obtain ⟨t, o, hs, r⟩ := g T w'
  exact ⟨t, o, XS.ixor X.here hx rfl (hb hby hd) rfl hs, r⟩
theorem s_idiv (H : Ok Z k R Q y b ml rt) {x u : Int32} (hd : decode b pc = .ok (.idiv, 1)) (hu : u ≠ 0) (hp : pc + 1 = pc') (g : Go Z k cn sn M pc' Ls (.int (x / u) :: st)) : Go Z k cn sn M pc Ls (.int u :: .int x :: st) := by
  obtain ⟨p, l, e, R', s, m, args, below, meth, c, Q'⟩ := k
  obtain ⟨hx, hZ, hby, -⟩ := H
  subst hp
  intro T w
  have w' := w
  obtain ⟨locs, X, F, O⟩ := w
  obtain ⟨t, o, hs, r⟩ := g T w'
  exact ⟨t, o, XS.idiv X.here hx rfl (hb hby hd) rfl hu hs, r⟩
theorem s_ineg (H : Ok Z k R Q y b ml rt) {x : Int32} (hd : decode b pc = .ok (.ineg, 1)) (hp : pc + 1 = pc') (g : Go Z k cn sn M pc' Ls (.int (-x) :: st)) : Go Z k cn sn M pc Ls (.int x :: st) := by
  obtain ⟨p, l, e, R', s, m, args, below, meth, c, Q'⟩ := k
  obtain ⟨hx, hZ, hby, -⟩ := H
  subst hp
  intro T w
  have w' := w
  obtain ⟨locs, X, F, O⟩ := w
  obtain ⟨t, o, hs, r⟩ := g T w'
  exact ⟨t, o, XS.ineg X.here hx rfl (hb hby hd) rfl hs, r⟩
theorem s_ladd (H : Ok Z k R Q y b ml rt) {x u : Int64} (hd : decode b pc = .ok (.ladd, 1)) (hp : pc + 1 = pc') (g : Go Z k cn sn M pc' Ls (.long (x + u) :: st)) : Go Z k cn sn M pc Ls (.long u :: .long x :: st) := by
  obtain ⟨p, l, e, R', s, m, args, below, meth, c, Q'⟩ := k
  obtain ⟨hx, hZ, hby, -⟩ := H
  subst hp
  intro T w
  have w' := w
  obtain ⟨locs, X, F, O⟩ := w
  obtain ⟨t, o, hs, r⟩ := g T w'
  exact ⟨t, o, XS.ladd X.here hx rfl (hb hby hd) rfl hs, r⟩
theorem s_lsub (H : Ok Z k R Q y b ml rt) {x u : Int64} (hd : decode b pc = .ok (.lsub, 1)) (hp : pc + 1 = pc') (g : Go Z k cn sn M pc' Ls (.long (x - u) :: st)) : Go Z k cn sn M pc Ls (.long u :: .long x :: st) := by
  obtain ⟨p, l, e, R', s, m, args, below, meth, c, Q'⟩ := k
  obtain ⟨hx, hZ, hby, -⟩ := H
  subst hp
  intro T w
  have w' := w
  obtain ⟨locs, X, F, O⟩ := w
  obtain ⟨t, o, hs, r⟩ := g T w'
  exact ⟨t, o, XS.lsub X.here hx rfl (hb hby hd) rfl hs, r⟩
theorem s_lmul (H : Ok Z k R Q y b ml rt) {x u : Int64} (hd : decode b pc = .ok (.lmul, 1)) (hp : pc + 1 = pc') (g : Go Z k cn sn M pc' Ls (.long (x * u) :: st)) : Go Z k cn sn M pc Ls (.long u :: .long x :: st) := by
  obtain ⟨p, l, e, R', s, m, args, below, meth, c, Q'⟩ := k
  obtain ⟨hx, hZ, hby, -⟩ := H
  subst hp
  intro T w
  have w' := w
  obtain ⟨locs, X, F, O⟩ := w
  obtain ⟨t, o, hs, r⟩ := g T w'
  exact ⟨t, o, XS.lmul X.here hx rfl (hb hby hd) rfl hs, r⟩
theorem s_land (H : Ok Z k R Q y b ml rt) {x u : Int64} (hd : decode b pc = .ok (.land, 1)) (hp : pc + 1 = pc') (g : Go Z k cn sn M pc' Ls (.long (x &&& u) :: st)) : Go Z k cn sn M pc Ls (.long u :: .long x :: st) := by
  obtain ⟨p, l, e, R', s, m, args, below, meth, c, Q'⟩ := k
  obtain ⟨hx, hZ, hby, -⟩ := H
  subst hp
  intro T w
  have w' := w
  obtain ⟨locs, X, F, O⟩ := w
  obtain ⟨t, o, hs, r⟩ := g T w'
  exact ⟨t, o, XS.land X.here hx rfl (hb hby hd) rfl hs, r⟩
theorem s_lor (H : Ok Z k R Q y b ml rt) {x u : Int64} (hd : decode b pc = .ok (.lor, 1)) (hp : pc + 1 = pc') (g : Go Z k cn sn M pc' Ls (.long (x ||| u) :: st)) : Go Z k cn sn M pc Ls (.long u :: .long x :: st) := by
  obtain ⟨p, l, e, R', s, m, args, below, meth, c, Q'⟩ := k
  obtain ⟨hx, hZ, hby, -⟩ := H
  subst hp
  intro T w
  have w' := w
  obtain ⟨locs, X, F, O⟩ := w
  obtain ⟨t, o, hs, r⟩ := g T w'
  exact ⟨t, o, XS.lor X.here hx rfl (hb hby hd) rfl hs, r⟩
theorem s_lxor (H : Ok Z k R Q y b ml rt) {x u : Int64} (hd : decode b pc = .ok (.lxor, 1)) (hp : pc + 1 = pc') (g : Go Z k cn sn M pc' Ls (.long (x ^^^ u) :: st)) : Go Z k cn sn M pc Ls (.long u :: .long x :: st) := by
  obtain ⟨p, l, e, R', s, m, args, below, meth, c, Q'⟩ := k
  obtain ⟨hx, hZ, hby, -⟩ := H
  subst hp
  intro T w
  have w' := w
  obtain ⟨locs, X, F, O⟩ := w
  obtain ⟨t, o, hs, r⟩ := g T w'
  exact ⟨t, o, XS.lxor X.here hx rfl (hb hby hd) rfl hs, r⟩
theorem s_ldiv (H : Ok Z k R Q y b ml rt) {x u : Int64} (hd : decode b pc = .ok (.ldiv, 1)) (hu : u ≠ 0) (hp : pc + 1 = pc') (g : Go Z k cn sn M pc' Ls (.long (x / u) :: st)) : Go Z k cn sn M pc Ls (.long u :: .long x :: st) := by
  obtain ⟨p, l, e, R', s, m, args, below, meth, c, Q'⟩ := k
  obtain ⟨hx, hZ, hby, -⟩ := H
  subst hp
  intro T w
  have w' := w
  obtain ⟨locs, X, F, O⟩ := w
  obtain ⟨t, o, hs, r⟩ := g T w'
  exact ⟨t, o, XS.ldiv X.here hx rfl (hb hby hd) rfl hu hs, r⟩
theorem s_lneg (H : Ok Z k R Q y b ml rt) {x : Int64} (hd : decode b pc = .ok (.lneg, 1)) (hp : pc + 1 = pc') (g : Go Z k cn sn M pc' Ls (.long (-x) :: st)) : Go Z k cn sn M pc Ls (.long x :: st) := by
  obtain ⟨p, l, e, R', s, m, args, below, meth, c, Q'⟩ := k
  obtain ⟨hx, hZ, hby, -⟩ := H
  subst hp
  intro T w
  have w' := w
  obtain ⟨locs, X, F, O⟩ := w
  obtain ⟨t, o, hs, r⟩ := g T w'
  exact ⟨t, o, XS.lneg X.here hx rfl (hb hby hd) rfl hs, r⟩
theorem s_irem (H : Ok Z k R Q y b ml rt) {x u : Int32} (hd : decode b pc = .ok (.irem, 1)) (hu : u ≠ 0) (hp : pc + 1 = pc') (g : Go Z k cn sn M pc' Ls (.int (x % u) :: st)) : Go Z k cn sn M pc Ls (.int u :: .int x :: st) := by
  obtain ⟨p, l, e, R', s, m, args, below, meth, c, Q'⟩ := k
  obtain ⟨hx, hZ, hby, -⟩ := H
  subst hp
  intro T w
  have w' := w
  obtain ⟨locs, X, F, O⟩ := w
  obtain ⟨t, o, hs, r⟩ := g T w'
  exact ⟨t, o, iremM X hx rfl (hb hby hd) rfl hu hs, r⟩
theorem s_lrem (H : Ok Z k R Q y b ml rt) {x u : Int64} (hd : decode b pc = .ok (.lrem, 1)) (hu : u ≠ 0) (hp : pc + 1 = pc') (g : Go Z k cn sn M pc' Ls (.long (x % u) :: st)) : Go Z k cn sn M pc Ls (.long u :: .long x :: st) := by
  obtain ⟨p, l, e, R', s, m, args, below, meth, c, Q'⟩ := k
  obtain ⟨hx, hZ, hby, -⟩ := H
  subst hp
  intro T w
  have w' := w
  obtain ⟨locs, X, F, O⟩ := w
  obtain ⟨t, o, hs, r⟩ := g T w'
  exact ⟨t, o, XS.lrem X.here hx rfl (hb hby hd) rfl hu (lrem_mod x u ▸ hs), r⟩
theorem s_ishl (H : Ok Z k R Q y b ml rt) {x u : Int32} (hd : decode b pc = .ok (.ishl, 1)) (hp : pc + 1 = pc') (g : Go Z k cn sn M pc' Ls (.int (x <<< (u &&& 31)) :: st)) : Go Z k cn sn M pc Ls (.int u :: .int x :: st) := by
  obtain ⟨p, l, e, R', s, m, args, below, meth, c, Q'⟩ := k
  obtain ⟨hx, hZ, hby, -⟩ := H
  subst hp
  intro T w
  have w' := w
  obtain ⟨locs, X, F, O⟩ := w
  obtain ⟨t, o, hs, r⟩ := g T w'
  exact ⟨t, o, XS.ishl X.here hx rfl (hb hby hd) rfl hs, r⟩
theorem s_ishr (H : Ok Z k R Q y b ml rt) {x u : Int32} (hd : decode b pc = .ok (.ishr, 1)) (hp : pc + 1 = pc') (g : Go Z k cn sn M pc' Ls (.int (x >>> (u &&& 31)) :: st)) : Go Z k cn sn M pc Ls (.int u :: .int x :: st) := by
  obtain ⟨p, l, e, R', s, m, args, below, meth, c, Q'⟩ := k
  obtain ⟨hx, hZ, hby, -⟩ := H
  subst hp
  intro T w
  have w' := w
  obtain ⟨locs, X, F, O⟩ := w
  obtain ⟨t, o, hs, r⟩ := g T w'
  exact ⟨t, o, XS.ishr X.here hx rfl (hb hby hd) rfl hs, r⟩
theorem s_iushr (H : Ok Z k R Q y b ml rt) {x u : Int32} (hd : decode b pc = .ok (.iushr, 1)) (hp : pc + 1 = pc') (g : Go Z k cn sn M pc' Ls (.int ((x.toUInt32 >>> (u &&& 31).toUInt32).toInt32) :: st)) : Go Z k cn sn M pc Ls (.int u :: .int x :: st) := by
  obtain ⟨p, l, e, R', s, m, args, below, meth, c, Q'⟩ := k
  obtain ⟨hx, hZ, hby, -⟩ := H
  subst hp
  intro T w
  have w' := w
  obtain ⟨locs, X, F, O⟩ := w
  obtain ⟨t, o, hs, r⟩ := g T w'
  exact ⟨t, o, XS.iushr X.here hx rfl (hb hby hd) rfl hs, r⟩
theorem s_lshl (H : Ok Z k R Q y b ml rt) {x : Int64} {u : Int32} (hd : decode b pc = .ok (.lshl, 1)) (hp : pc + 1 = pc') (g : Go Z k cn sn M pc' Ls (.long (x <<< (u &&& 0x3f).toInt64) :: st)) : Go Z k cn sn M pc Ls (.int u :: .long x :: st) := by
  obtain ⟨p, l, e, R', s, m, args, below, meth, c, Q'⟩ := k
  obtain ⟨hx, hZ, hby, -⟩ := H
  subst hp
  intro T w
  have w' := w
  obtain ⟨locs, X, F, O⟩ := w
  obtain ⟨t, o, hs, r⟩ := g T w'
  exact ⟨t, o, XS.lshl X.here hx rfl (hb hby hd) rfl hs, r⟩
theorem s_lshr (H : Ok Z k R Q y b ml rt) {x : Int64} {u : Int32} (hd : decode b pc = .ok (.lshr, 1)) (hp : pc + 1 = pc') (g : Go Z k cn sn M pc' Ls (.long (x >>> (u &&& 0x3f).toInt64) :: st)) : Go Z k cn sn M pc Ls (.int u :: .long x :: st) := by
  obtain ⟨p, l, e, R', s, m, args, below, meth, c, Q'⟩ := k
  obtain ⟨hx, hZ, hby, -⟩ := H
  subst hp
  intro T w
  have w' := w
  obtain ⟨locs, X, F, O⟩ := w
  obtain ⟨t, o, hs, r⟩ := g T w'
  exact ⟨t, o, XS.lshr X.here hx rfl (hb hby hd) rfl hs, r⟩
theorem s_lushr (H : Ok Z k R Q y b ml rt) {x : Int64} {u : Int32} (hd : decode b pc = .ok (.lushr, 1)) (hp : pc + 1 = pc') (g : Go Z k cn sn M pc' Ls (.long ((x.toUInt64 >>> (u &&& 0x3f).toInt64.toUInt64).toInt64) :: st)) : Go Z k cn sn M pc Ls (.int u :: .long x :: st) := by
  obtain ⟨p, l, e, R', s, m, args, below, meth, c, Q'⟩ := k
  obtain ⟨hx, hZ, hby, -⟩ := H
  subst hp
  intro T w
  have w' := w
  obtain ⟨locs, X, F, O⟩ := w
  obtain ⟨t, o, hs, r⟩ := g T w'
  exact ⟨t, o, XS.lushr X.here hx rfl (hb hby hd) rfl hs, r⟩
theorem s_i2l (H : Ok Z k R Q y b ml rt) {x : Int32} (hd : decode b pc = .ok (.i2l, 1)) (hp : pc + 1 = pc') (g : Go Z k cn sn M pc' Ls (.long (x.toInt64) :: st)) : Go Z k cn sn M pc Ls (.int x :: st) := by
  obtain ⟨p, l, e, R', s, m, args, below, meth, c, Q'⟩ := k
  obtain ⟨hx, hZ, hby, -⟩ := H
  subst hp
  intro T w
  have w' := w
  obtain ⟨locs, X, F, O⟩ := w
  obtain ⟨t, o, hs, r⟩ := g T w'
  exact ⟨t, o, XS.i2l X.here hx rfl (hb hby hd) rfl hs, r⟩
theorem s_l2i (H : Ok Z k R Q y b ml rt) {x : Int64} (hd : decode b pc = .ok (.l2i, 1)) (hp : pc + 1 = pc') (g : Go Z k cn sn M pc' Ls (.int (x.toInt32) :: st)) : Go Z k cn sn M pc Ls (.long x :: st) := by
  obtain ⟨p, l, e, R', s, m, args, below, meth, c, Q'⟩ := k
  obtain ⟨hx, hZ, hby, -⟩ := H
  subst hp
  intro T w
  have w' := w
  obtain ⟨locs, X, F, O⟩ := w
  obtain ⟨t, o, hs, r⟩ := g T w'
  exact ⟨t, o, XS.l2i X.here hx rfl (hb hby hd) rfl hs, r⟩
theorem s_i2b (H : Ok Z k R Q y b ml rt) {x : Int32} (hd : decode b pc = .ok (.i2b, 1)) (hp : pc + 1 = pc') (g : Go Z k cn sn M pc' Ls (.int (x.toInt8.toInt32) :: st)) : Go Z k cn sn M pc Ls (.int x :: st) := by
  obtain ⟨p, l, e, R', s, m, args, below, meth, c, Q'⟩ := k
  obtain ⟨hx, hZ, hby, -⟩ := H
  subst hp
  intro T w
  have w' := w
  obtain ⟨locs, X, F, O⟩ := w
  obtain ⟨t, o, hs, r⟩ := g T w'
  exact ⟨t, o, XS.i2b X.here hx rfl (hb hby hd) rfl hs, r⟩
theorem s_i2c (H : Ok Z k R Q y b ml rt) {x : Int32} (hd : decode b pc = .ok (.i2c, 1)) (hp : pc + 1 = pc') (g : Go Z k cn sn M pc' Ls (.int (x.toUInt32.toUInt16.toUInt32.toInt32) :: st)) : Go Z k cn sn M pc Ls (.int x :: st) := by
  obtain ⟨p, l, e, R', s, m, args, below, meth, c, Q'⟩ := k
  obtain ⟨hx, hZ, hby, -⟩ := H
  subst hp
  intro T w
  have w' := w
  obtain ⟨locs, X, F, O⟩ := w
  obtain ⟨t, o, hs, r⟩ := g T w'
  exact ⟨t, o, XS.i2c X.here hx rfl (hb hby hd) rfl hs, r⟩
theorem s_i2s (H : Ok Z k R Q y b ml rt) {x : Int32} (hd : decode b pc = .ok (.i2s, 1)) (hp : pc + 1 = pc') (g : Go Z k cn sn M pc' Ls (.int (x.toInt16.toInt32) :: st)) : Go Z k cn sn M pc Ls (.int x :: st) := by
  obtain ⟨p, l, e, R', s, m, args, below, meth, c, Q'⟩ := k
  obtain ⟨hx, hZ, hby, -⟩ := H
  subst hp
  intro T w
  have w' := w
  obtain ⟨locs, X, F, O⟩ := w
  obtain ⟨t, o, hs, r⟩ := g T w'
  exact ⟨t, o, XS.i2s X.here hx rfl (hb hby hd) rfl hs, r⟩
theorem s_lcmp (H : Ok Z k R Q y b ml rt) {x u : Int64} (hd : decode b pc = .ok (.lcmp, 1)) (hp : pc + 1 = pc') (g : Go Z k cn sn M pc' Ls (.int (lcmpW x u) :: st)) : Go Z k cn sn M pc Ls (.long u :: .long x :: st) := by
  obtain ⟨p, l, e, R', s, m, args, below, meth, c, Q'⟩ := k
  obtain ⟨hx, hZ, hby, -⟩ := H
  subst hp
  intro T w
  have w' := w
  obtain ⟨locs, X, F, O⟩ := w
  obtain ⟨t, o, hs, r⟩ := g T w'
  exact ⟨t, o, XS.lcmp X.here hx rfl (hb hby hd) rfl hs, r⟩
theorem s_dup (H : Ok Z k R Q y b ml rt) {v : Value} (hd : decode b pc = .ok (.dup, 1)) (hc : v.category = 1) (hp : pc + 1 = pc') (g : Go Z k cn sn M pc' Ls (v :: v :: st)) : Go Z k cn sn M pc Ls (v :: st) := by
  obtain ⟨p, l, e, R', s, m, args, below, meth, c, Q'⟩ := k
  obtain ⟨hx, hZ, hby, -⟩ := H
  subst hp
  intro T w
  have w' := w
  obtain ⟨locs, X, F, O⟩ := w
  obtain ⟨t, o, hs, r⟩ := g T w'
  exact ⟨t, o, XS.dup X.here hx rfl (hb hby hd) rfl hc hs, r⟩
theorem s_dupx1 (H : Ok Z k R Q y b ml rt) {v v' : Value} (hd : decode b pc = .ok (.dup_x1, 1)) (hc : v.category = 1) (hc' : v'.category = 1) (hp : pc + 1 = pc') (g : Go Z k cn sn M pc' Ls (v :: v' :: v :: st)) : Go Z k cn sn M pc Ls (v :: v' :: st) := by
  obtain ⟨p, l, e, R', s, m, args, below, meth, c, Q'⟩ := k
  obtain ⟨hx, hZ, hby, -⟩ := H
  subst hp
  intro T w
  have w' := w
  obtain ⟨locs, X, F, O⟩ := w
  obtain ⟨t, o, hs, r⟩ := g T w'
  exact ⟨t, o, XS.dupX1 X.here hx rfl (hb hby hd) rfl hc hc' hs, r⟩
theorem s_dup2 (H : Ok Z k R Q y b ml rt) {v v' : Value} (hd : decode b pc = .ok (.dup2, 1)) (hc : v.category = 1) (hc' : v'.category = 1) (hp : pc + 1 = pc') (g : Go Z k cn sn M pc' Ls (v :: v' :: v :: v' :: st)) : Go Z k cn sn M pc Ls (v :: v' :: st) := by
  obtain ⟨p, l, e, R', s, m, args, below, meth, c, Q'⟩ := k
  obtain ⟨hx, hZ, hby, -⟩ := H
  subst hp
  intro T w
  have w' := w
  obtain ⟨locs, X, F, O⟩ := w
  obtain ⟨t, o, hs, r⟩ := g T w'
  exact ⟨t, o, XT.dup2 X.here hx rfl (hb hby hd) rfl hc hc' hs, r⟩
theorem s_dup2l (H : Ok Z k R Q y b ml rt) {x : Int64} (hd : decode b pc = .ok (.dup2, 1)) (hp : pc + 1 = pc') (g : Go Z k cn sn M pc' Ls (.long x :: .long x :: st)) : Go Z k cn sn M pc Ls (.long x :: st) := by
  obtain ⟨p, l, e, R', s, m, args, below, meth, c, Q'⟩ := k
  obtain ⟨hx, hZ, hby, -⟩ := H
  subst hp
  intro T w
  have w' := w
  obtain ⟨locs, X, F, O⟩ := w
  obtain ⟨t, o, hs, r⟩ := g T w'
  exact ⟨t, o, XT.dup2L X.here hx rfl (hb hby hd) rfl hs, r⟩
theorem s_pop (H : Ok Z k R Q y b ml rt) {v : Value} (hd : decode b pc = .ok (.pop, 1)) (hc : v.category = 1) (hp : pc + 1 = pc') (g : Go Z k cn sn M pc' Ls (st)) : Go Z k cn sn M pc Ls (v :: st) := by
  obtain ⟨p, l, e, R', s, m, args, below, meth, c, Q'⟩ := k
  obtain ⟨hx, hZ, hby, -⟩ := H
  subst hp
  intro T w
  have w' := w
  obtain ⟨locs, X, F, O⟩ := w
  obtain ⟨t, o, hs, r⟩ := g T w'
  exact ⟨t, o, XS.pop X.here hx rfl (hb hby hd) rfl hc hs, r⟩
theorem s_iinc (H : Ok Z k R Q y b ml rt) {i : Nat} {cst : Int} {x u : Int32} {L' : Int32 → Array Slot} (hd : decode b pc = .ok (.iinc i cst, 3)) (hl0 : Ls[i]? = some (.val (.int x))) (hu : u = Int32.ofInt cst) (hl : ∀ z, storeLocals Ls i (.int z) = some (L' z)) (hp : pc + 3 = pc') (g : ∀ z, z = x + u → Go Z k cn sn M pc' (L' z) st) : Go Z k cn sn M pc Ls st := by
  obtain ⟨p, l, e, R', s, m, args, below, meth, c, Q'⟩ := k
  obtain ⟨hx, hZ, hby, -⟩ := H
  subst hp hu
  intro T w
  have w' := w
  obtain ⟨locs, X, F, O⟩ := w
  obtain ⟨t, o, hs, r⟩ := g _ rfl T w'
  exact ⟨t, o, XS.iinc X.here hx rfl (hb hby hd) hl0 (hl _) hs, r⟩
theorem s_goto (H : Ok Z k R Q y b ml rt) {o : Int} (hd : decode b pc = .ok (.goto o, 3)) (ho : (pc : Int) + o = pc') (g : Go Z k cn sn M pc' Ls st) : Go Z k cn sn M pc Ls st := by
  obtain ⟨p, l, e, R', s, m, args, below, meth, c, Q'⟩ := k
  obtain ⟨hx, hZ, hby, -⟩ := H
  intro T w
  have w' := w
  obtain ⟨locs, X, F, O⟩ := w
  obtain ⟨t, o, hs, r⟩ := g T w'
  exact ⟨t, o, XS.goto X.here hx rfl (pc0 := pc) rfl (hb hby hd) (by omega) (by omega) hs, r⟩
theorem s_if (H : Ok Z k R Q y b ml rt) {cd : ClassFile.Cond} {o : Int} {x : Int32} {py : Nat} {φ : Prop} (hd : decode b pc = .ok (.ifCond cd o, 3)) (hq : ifCond.holds cd x = true ↔ φ) (ho : (pc : Int) + o = py) (hp : pc + 3 = pc') (gy : φ → Go Z k cn sn M py Ls st) (gn : ¬ φ → Go Z k cn sn M pc' Ls st) : Go Z k cn sn M pc Ls (.int x :: st) := by
  obtain ⟨p, l, e, R', s, m, args, below, meth, c, Q'⟩ := k
  obtain ⟨hx, hZ, hby, -⟩ := H
  subst hp
  intro T w
  have w' := w
  obtain ⟨locs, X, F, O⟩ := w
  cases hh : ifCond.holds cd x with
  | true =>
    obtain ⟨t, o, hs, r⟩ := gy (hq.mp hh) T w'
    exact ⟨t, o, XS.ifYes X.here hx rfl (pc0 := pc) rfl (hb hby hd) rfl hh (by omega) (by omega) hs, r⟩
  | false =>
    obtain ⟨t, o, hs, r⟩ := gn (fun q => by rw [hq.mpr q] at hh; cases hh) T w'
    exact ⟨t, o, XS.ifNo X.here hx rfl (hb hby hd) rfl hh hs, r⟩
theorem s_icmp (H : Ok Z k R Q y b ml rt) {cd : ClassFile.Cond} {o : Int} {x u : Int32} {py : Nat} {φ : Prop} (hd : decode b pc = .ok (.if_icmp cd o, 3)) (hq : if_icmp.holds cd x u = true ↔ φ) (ho : (pc : Int) + o = py) (hp : pc + 3 = pc') (gy : φ → Go Z k cn sn M py Ls st) (gn : ¬ φ → Go Z k cn sn M pc' Ls st) : Go Z k cn sn M pc Ls (.int u :: .int x :: st) := by
  obtain ⟨p, l, e, R', s, m, args, below, meth, c, Q'⟩ := k
  obtain ⟨hx, hZ, hby, -⟩ := H
  subst hp
  intro T w
  have w' := w
  obtain ⟨locs, X, F, O⟩ := w
  cases hh : if_icmp.holds cd x u with
  | true =>
    obtain ⟨t, o, hs, r⟩ := gy (hq.mp hh) T w'
    exact ⟨t, o, XS.icmpYes X.here hx rfl (pc0 := pc) rfl (hb hby hd) rfl hh (by omega) (by omega) hs, r⟩
  | false =>
    obtain ⟨t, o, hs, r⟩ := gn (fun q => by rw [hq.mpr q] at hh; cases hh) T w'
    exact ⟨t, o, XS.icmpNo X.here hx rfl (hb hby hd) rfl hh hs, r⟩
theorem q_eq {x u : Int32} : if_icmp.holds .eq x u = true ↔ x = u := by simp [if_icmp.holds]
theorem z_eq {x : Int32} : ifCond.holds .eq x = true ↔ x = 0 := by rw [if0]; exact q_eq
theorem q_ne {x u : Int32} : if_icmp.holds .ne x u = true ↔ ¬ x = u := by simp [if_icmp.holds]
theorem z_ne {x : Int32} : ifCond.holds .ne x = true ↔ ¬ x = 0 := by rw [if0]; exact q_ne
theorem q_lt {x u : Int32} : if_icmp.holds .lt x u = true ↔ x < u := by simp [if_icmp.holds]
theorem z_lt {x : Int32} : ifCond.holds .lt x = true ↔ x < 0 := by rw [if0]; exact q_lt
theorem q_ge {x u : Int32} : if_icmp.holds .ge x u = true ↔ u ≤ x := by simp [if_icmp.holds]
theorem z_ge {x : Int32} : ifCond.holds .ge x = true ↔ 0 ≤ x := by rw [if0]; exact q_ge
theorem q_gt {x u : Int32} : if_icmp.holds .gt x u = true ↔ u < x := by simp [if_icmp.holds]
theorem z_gt {x : Int32} : ifCond.holds .gt x = true ↔ 0 < x := by rw [if0]; exact q_gt
theorem q_le {x u : Int32} : if_icmp.holds .le x u = true ↔ x ≤ u := by simp [if_icmp.holds]
theorem z_le {x : Int32} : ifCond.holds .le x = true ↔ x ≤ 0 := by rw [if0]; exact q_le
theorem l_eq {x u : Int64} : ifCond.holds .eq (lcmpW x u) = true ↔ x = u := z_eq.trans (lw_eq x u)
theorem l_ne {x u : Int64} : ifCond.holds .ne (lcmpW x u) = true ↔ ¬ x = u := z_ne.trans (not_congr (lw_eq x u))
theorem l_lt {x u : Int64} : ifCond.holds .lt (lcmpW x u) = true ↔ x < u := z_lt.trans (lw_lt x u)
theorem l_gt {x u : Int64} : ifCond.holds .gt (lcmpW x u) = true ↔ u < x := z_gt.trans (lw_gt x u)
theorem l_ge {x u : Int64} : ifCond.holds .ge (lcmpW x u) = true ↔ u ≤ x := z_ge.trans (by rw [lcW]; exact lc_ge x u)
theorem l_le {x u : Int64} : ifCond.holds .le (lcmpW x u) = true ↔ x ≤ u := z_le.trans (by rw [lcW]; exact lc_le x u)
theorem s_ifnull (H : Ok Z k R Q y b ml rt) {o : Int} {a : Addr} (hd : decode b pc = .ok (.ifnull o, 3)) (hp : pc + 3 = pc') (g : Go Z k cn sn M pc' Ls st) : Go Z k cn sn M pc Ls (.ref a :: st) := by
  obtain ⟨p, l, e, R', s, m, args, below, meth, c, Q'⟩ := k
  obtain ⟨hx, hZ, hby, -⟩ := H
  subst hp
  intro T w
  have w' := w
  obtain ⟨locs, X, F, O⟩ := w
  obtain ⟨t, o, hs, r⟩ := g T w'
  exact ⟨t, o, XS.ifnullNo X.here hx rfl (hb hby hd) rfl hs, r⟩
theorem s_acmpne (H : Ok Z k R Q y b ml rt) {o : Int} {a a' : Addr} {py : Nat} (hd : decode b pc = .ok (.if_acmp .ne o, 3)) (hne : a ≠ a') (ho : (pc : Int) + o = py) (g : Go Z k cn sn M py Ls st) : Go Z k cn sn M pc Ls (.ref a' :: .ref a :: st) := by
  obtain ⟨p, l, e, R', s, m, args, below, meth, c, Q'⟩ := k
  obtain ⟨hx, hZ, hby, -⟩ := H
  intro T w
  have w' := w
  obtain ⟨locs, X, F, O⟩ := w
  obtain ⟨t, o, hs, r⟩ := g T w'
  exact ⟨t, o, XS.acmpYes X.here hx rfl (pc0 := pc) rfl (hb hby hd) rfl (by simp [if_acmp.holds, hne]) (by omega) (by omega) hs, r⟩
theorem s_acmpeq (H : Ok Z k R Q y b ml rt) {o : Int} {a a' : Addr} (hd : decode b pc = .ok (.if_acmp .eq o, 3)) (hne : a ≠ a') (hp : pc + 3 = pc') (g : Go Z k cn sn M pc' Ls st) : Go Z k cn sn M pc Ls (.ref a' :: .ref a :: st) := by
  obtain ⟨p, l, e, R', s, m, args, below, meth, c, Q'⟩ := k
  obtain ⟨hx, hZ, hby, -⟩ := H
  subst hp
  intro T w
  have w' := w
  obtain ⟨locs, X, F, O⟩ := w
  obtain ⟨t, o, hs, r⟩ := g T w'
  exact ⟨t, o, XS.acmpNo X.here hx rfl (hb hby hd) rfl (by simp [if_acmp.holds, hne]) hs, r⟩
theorem s_ldc2 (H : Ok Z k R Q y b ml rt) {i : Nat} {z : Int64} (hd : decode b pc = .ok (.ldc2_w i, 3)) (w1 : Jvm.Cond.constantLong y.cls i z ∈ tables_1) (hp : pc + 3 = pc') (g : Go Z k cn sn M pc' Ls (.long z :: st)) : Go Z k cn sn M pc Ls st := by
  obtain ⟨p, l, e, R', s, m, args, below, meth, c, Q'⟩ := k
  obtain ⟨hx, hZ, hby, -, hown, -, -, -, ⟨a0, hw⟩, -⟩ := H
  subst hp
  intro T w
  have w' := w
  obtain ⟨locs, X, F, O⟩ := w
  obtain ⟨t, o, hs, r⟩ := g T w'
  exact ⟨t, o, X.ldc2Long hx hown (mvT hZ (hw _ w1)) (g := mkF m pc Ls st) rfl (hb hby hd) _ hs, r⟩
theorem s_ldc (H : Ok Z k R Q y b ml rt) {i : Nat} {z : Int32} (hd : decode b pc = .ok (.ldc i, 2)) (w1 : Jvm.Cond.constant y.cls i z ∈ tables_1) (hp : pc + 2 = pc') (g : Go Z k cn sn M pc' Ls (.int z :: st)) : Go Z k cn sn M pc Ls st := by
  obtain ⟨p, l, e, R', s, m, args, below, meth, c, Q'⟩ := k
  obtain ⟨hx, hZ, hby, -, hown, -, -, -, ⟨a0, hw⟩, -⟩ := H
  subst hp
  intro T w
  have w' := w
  obtain ⟨locs, X, F, O⟩ := w
  obtain ⟨t, o, hs, r⟩ := g T w'
  exact ⟨t, o, X.ldcInt hx hown (mvT hZ (hw _ w1)) (g := mkF m pc Ls st) rfl (hb hby hd) _ hs, r⟩
/-! the heap's steps -/
theorem nb_of {n : Nat} {j : Int32} (h0 : ¬ j < 0) (hl : j.toNatClampNeg < n) : ¬ (j < 0 ∨ n ≤ j.toNatClampNeg) := fun q => q.elim h0 fun r => Nat.not_lt.mpr r hl
theorem s_alenI (H : Ok Z k R Q y b ml rt) {i : Nat} {a : Addr} {ty : FieldType} {vs : List Int32} {z : Int32} (hd : decode b pc = .ok (.arraylength, 1)) (hi : M[i]? = some (a, ArI Z ty vs)) (hz : z = vs.length.toInt32) (hp : pc + 1 = pc') (g : Go Z k cn sn M pc' Ls (.int z :: st)) : Go Z k cn sn M pc Ls (.ref a :: st) := by
  obtain ⟨p, l, e, R', s, m, args, below, meth, c, Q'⟩ := k
  obtain ⟨hx, hZ, hby, -⟩ := H
  subst hp hz
  intro T w
  have w' := w
  obtain ⟨locs, X, F, O⟩ := w
  obtain ⟨-, cl, q1, q2⟩ := O.2.1 i _ hi
  obtain ⟨t, o, hs, r⟩ := g T w'
  exact ⟨t, o, X.arraylength hx q1 (State.isArrayOf_alike hZ.alike q2.1) (g := mkF m pc Ls (.ref a :: st)) rfl rfl (hb hby hd) _ (by rw [q2.size]; exact hs), r⟩
theorem s_alenL (H : Ok Z k R Q y b ml rt) {i : Nat} {a : Addr} {vs : List Int64} {z : Int32} (hd : decode b pc = .ok (.arraylength, 1)) (hi : M[i]? = some (a, ArL Z vs)) (hz : z = vs.length.toInt32) (hp : pc + 1 = pc') (g : Go Z k cn sn M pc' Ls (.int z :: st)) : Go Z k cn sn M pc Ls (.ref a :: st) := by
  obtain ⟨p, l, e, R', s, m, args, below, meth, c, Q'⟩ := k
  obtain ⟨hx, hZ, hby, -⟩ := H
  subst hp hz
  intro T w
  have w' := w
  obtain ⟨locs, X, F, O⟩ := w
  obtain ⟨-, cl, q1, q2⟩ := O.2.1 i _ hi
  obtain ⟨t, o, hs, r⟩ := g T w'
  exact ⟨t, o, X.arraylength hx q1 (State.isArrayOf_alike hZ.alike q2.1) (g := mkF m pc Ls (.ref a :: st)) rfl rfl (hb hby hd) _ (by rw [q2.size]; exact hs), r⟩
theorem s_iaload (H : Ok Z k R Q y b ml rt) {i : Nat} {a : Addr} {vs : List Int32} {j : Int32} {x : Int32} (hd : decode b pc = .ok (.iaload, 1)) (hi : M[i]? = some (a, ArI Z .int vs)) (h0 : ¬ j < 0) {jn : Nat} (hjn : j.toNatClampNeg = jn) (hv : vs[jn]? = some x) (hp : pc + 1 = pc') (g : Go Z k cn sn M pc' Ls (.int x :: st)) : Go Z k cn sn M pc Ls (.int j :: .ref a :: st) := by
  obtain ⟨p, l, e, R', s, m, args, below, meth, c, Q'⟩ := k
  obtain ⟨hx, hZ, hby, -⟩ := H
  subst hp hjn
  intro T w
  have w' := w
  obtain ⟨locs, X, F, O⟩ := w
  obtain ⟨-, cl, q1, q2⟩ := O.2.1 i _ hi
  obtain ⟨t, o, hs, r⟩ := g T w'
  have hlt : j.toNatClampNeg < vs.length := (List.getElem?_eq_some_iff.mp hv).1
  exact ⟨t, o, X.iaload hx (v := .int x) q1 (State.isArrayOf_alike hZ.alike q2.1) q2.2.1 (nb_of h0 (by rw [q2.size]; exact hlt)) (by rw [q2.2.2.1]; simp [hv]) (g := mkF m pc Ls (.int j :: .ref a :: st)) rfl rfl (hb hby hd) _ hs, r⟩
theorem s_baload (H : Ok Z k R Q y b ml rt) {i : Nat} {a : Addr} {vs : List Int32} {j : Int32} {x : Int32} (hd : decode b pc = .ok (.baload, 1)) (hi : M[i]? = some (a, ArI Z .byte vs)) (h0 : ¬ j < 0) {jn : Nat} (hjn : j.toNatClampNeg = jn) (hv : vs[jn]? = some x) (hp : pc + 1 = pc') (g : Go Z k cn sn M pc' Ls (.int x :: st)) : Go Z k cn sn M pc Ls (.int j :: .ref a :: st) := by
  obtain ⟨p, l, e, R', s, m, args, below, meth, c, Q'⟩ := k
  obtain ⟨hx, hZ, hby, -⟩ := H
  subst hp hjn
  intro T w
  have w' := w
  obtain ⟨locs, X, F, O⟩ := w
  obtain ⟨-, cl, q1, q2⟩ := O.2.1 i _ hi
  obtain ⟨t, o, hs, r⟩ := g T w'
  have hlt : j.toNatClampNeg < vs.length := (List.getElem?_eq_some_iff.mp hv).1
  exact ⟨t, o, X.baloadBytes hx (v := .int x) q1 (State.isArrayOf_alike hZ.alike q2.1) q2.2.1 (nb_of h0 (by rw [q2.size]; exact hlt)) (by rw [q2.2.2.1]; simp [hv]) (g := mkF m pc Ls (.int j :: .ref a :: st)) rfl rfl (hb hby hd) _ hs, r⟩
theorem s_zaload (H : Ok Z k R Q y b ml rt) {i : Nat} {a : Addr} {vs : List Int32} {j : Int32} {x : Int32} (hd : decode b pc = .ok (.baload, 1)) (hi : M[i]? = some (a, ArI Z .boolean vs)) (h0 : ¬ j < 0) {jn : Nat} (hjn : j.toNatClampNeg = jn) (hv : vs[jn]? = some x) (hp : pc + 1 = pc') (g : Go Z k cn sn M pc' Ls (.int x :: st)) : Go Z k cn sn M pc Ls (.int j :: .ref a :: st) := by
  obtain ⟨p, l, e, R', s, m, args, below, meth, c, Q'⟩ := k
  obtain ⟨hx, hZ, hby, -⟩ := H
  subst hp hjn
  intro T w
  have w' := w
  obtain ⟨locs, X, F, O⟩ := w
  obtain ⟨-, cl, q1, q2⟩ := O.2.1 i _ hi
  obtain ⟨t, o, hs, r⟩ := g T w'
  have hlt : j.toNatClampNeg < vs.length := (List.getElem?_eq_some_iff.mp hv).1
  exact ⟨t, o, X.baloadBooleans hx (v := .int x) q1 (State.isArrayOf_alike hZ.alike q2.1) q2.2.1 (nb_of h0 (by rw [q2.size]; exact hlt)) (by rw [q2.2.2.1]; simp [hv]) (g := mkF m pc Ls (.int j :: .ref a :: st)) rfl rfl (hb hby hd) _ hs, r⟩
theorem s_laload (H : Ok Z k R Q y b ml rt) {i : Nat} {a : Addr} {vs : List Int64} {j : Int32} {x : Int64} (hd : decode b pc = .ok (.laload, 1)) (hi : M[i]? = some (a, ArL Z vs)) (h0 : ¬ j < 0) {jn : Nat} (hjn : j.toNatClampNeg = jn) (hv : vs[jn]? = some x) (hp : pc + 1 = pc') (g : Go Z k cn sn M pc' Ls (.long x :: st)) : Go Z k cn sn M pc Ls (.int j :: .ref a :: st) := by
  obtain ⟨p, l, e, R', s, m, args, below, meth, c, Q'⟩ := k
  obtain ⟨hx, hZ, hby, -⟩ := H
  subst hp hjn
  intro T w
  have w' := w
  obtain ⟨locs, X, F, O⟩ := w
  obtain ⟨-, cl, q1, q2⟩ := O.2.1 i _ hi
  obtain ⟨t, o, hs, r⟩ := g T w'
  have hlt : j.toNatClampNeg < vs.length := (List.getElem?_eq_some_iff.mp hv).1
  exact ⟨t, o, X.laload hx (v := .long x) q1 (State.isArrayOf_alike hZ.alike q2.1) q2.2.1 (nb_of h0 (by rw [q2.size]; exact hlt)) (by rw [q2.2.2.1]; simp [hv]) (g := mkF m pc Ls (.int j :: .ref a :: st)) rfl rfl (hb hby hd) _ hs, r⟩
theorem s_iastore (H : Ok Z k R Q y b ml rt) {i : Nat} {a : Addr} {vs : List Int32} {j : Int32} {x : Int32} (hd : decode b pc = .ok (.iastore, 1)) (hi : M[i]? = some (a, ArI Z .int vs)) (h0 : ¬ j < 0) {jn : Nat} (hjn : j.toNatClampNeg = jn) (hj : jn < vs.length) (hp : pc + 1 = pc') (g : Go Z k cn sn (M.set i (a, ArI Z .int (vs.set jn x))) pc' Ls st) : Go Z k cn sn M pc Ls (.int x :: .int j :: .ref a :: st) := by
  obtain ⟨p, l, e, R', s, m, args, below, meth, c, Q'⟩ := k
  obtain ⟨hx, hZ, hby, -⟩ := H
  subst hp hjn
  intro T w
  obtain ⟨locs, X, F, O⟩ := w
  obtain ⟨q0, cl, q1, q2⟩ := O.2.1 i _ hi
  obtain ⟨T', h', X', e', W, sg⟩ := stI X hx hZ rfl (q2.arr q1) (j := j) (nb_of h0 (by rw [q2.size]; exact hj)) (g := mkF m pc Ls (.int x :: .int j :: .ref a :: st)) rfl rfl (hb hby hd)
  obtain ⟨t, o, hs, r⟩ := g T' ⟨_, X', Fr.snoc X' F q0, e' ▸ O.upd hi W fun c _ hc => hc.put _ rfl⟩
  exact ⟨t, o, sg _ hs, r⟩
theorem s_bastore (H : Ok Z k R Q y b ml rt) {i : Nat} {a : Addr} {vs : List Int32} {j : Int32} {x0 x : Int32} (hd : decode b pc = .ok (.bastore, 1)) (hi : M[i]? = some (a, ArI Z .byte vs)) (h0 : ¬ j < 0) {jn : Nat} (hjn : j.toNatClampNeg = jn) (hj : jn < vs.length) (hn : x = nar .byte x0) (hp : pc + 1 = pc') (g : Go Z k cn sn (M.set i (a, ArI Z .byte (vs.set jn x))) pc' Ls st) : Go Z k cn sn M pc Ls (.int x0 :: .int j :: .ref a :: st) := by
  obtain ⟨p, l, e, R', s, m, args, below, meth, c, Q'⟩ := k
  obtain ⟨hx, hZ, hby, -⟩ := H
  subst hp hjn hn
  intro T w
  obtain ⟨locs, X, F, O⟩ := w
  obtain ⟨q0, cl, q1, q2⟩ := O.2.1 i _ hi
  obtain ⟨T', h', X', e', W, sg⟩ := stB X hx hZ rfl (q2.arr q1) (j := j) (nb_of h0 (by rw [q2.size]; exact hj)) (g := mkF m pc Ls (.int x0 :: .int j :: .ref a :: st)) rfl rfl (hb hby hd)
  obtain ⟨t, o, hs, r⟩ := g T' ⟨_, X', Fr.snoc X' F q0, e' ▸ O.upd hi W fun c _ hc => hc.put _ (fits_nar_byte _)⟩
  exact ⟨t, o, sg _ hs, r⟩
theorem s_zastore (H : Ok Z k R Q y b ml rt) {i : Nat} {a : Addr} {vs : List Int32} {j : Int32} {x0 x : Int32} (hd : decode b pc = .ok (.bastore, 1)) (hi : M[i]? = some (a, ArI Z .boolean vs)) (h0 : ¬ j < 0) {jn : Nat} (hjn : j.toNatClampNeg = jn) (hj : jn < vs.length) (hn : x = nar .boolean x0) (hp : pc + 1 = pc') (g : Go Z k cn sn (M.set i (a, ArI Z .boolean (vs.set jn x))) pc' Ls st) : Go Z k cn sn M pc Ls (.int x0 :: .int j :: .ref a :: st) := by
  obtain ⟨p, l, e, R', s, m, args, below, meth, c, Q'⟩ := k
  obtain ⟨hx, hZ, hby, -⟩ := H
  subst hp hjn hn
  intro T w
  obtain ⟨locs, X, F, O⟩ := w
  obtain ⟨q0, cl, q1, q2⟩ := O.2.1 i _ hi
  obtain ⟨T', h', X', e', W, sg⟩ := stZ X hx hZ rfl (q2.arr q1) (j := j) (nb_of h0 (by rw [q2.size]; exact hj)) (g := mkF m pc Ls (.int x0 :: .int j :: .ref a :: st)) rfl rfl (hb hby hd)
  obtain ⟨t, o, hs, r⟩ := g T' ⟨_, X', Fr.snoc X' F q0, e' ▸ O.upd hi W fun c _ hc => hc.put _ (fits_nar_bool _)⟩
  exact ⟨t, o, sg _ hs, r⟩
theorem s_lastore (H : Ok Z k R Q y b ml rt) {i : Nat} {a : Addr} {vs : List Int64} {j : Int32} {x : Int64} (hd : decode b pc = .ok (.lastore, 1)) (hi : M[i]? = some (a, ArL Z vs)) (h0 : ¬ j < 0) {jn : Nat} (hjn : j.toNatClampNeg = jn) (hj : jn < vs.length) (hp : pc + 1 = pc') (g : Go Z k cn sn (M.set i (a, ArL Z (vs.set jn x))) pc' Ls st) : Go Z k cn sn M pc Ls (.long x :: .int j :: .ref a :: st) := by
  obtain ⟨p, l, e, R', s, m, args, below, meth, c, Q'⟩ := k
  obtain ⟨hx, hZ, hby, -⟩ := H
  subst hp hjn
  intro T w
  obtain ⟨locs, X, F, O⟩ := w
  obtain ⟨q0, cl, q1, q2⟩ := O.2.1 i _ hi
  obtain ⟨T', h', X', e', W, sg⟩ := stJ X hx hZ rfl (q2.arr q1) (j := j) (nb_of h0 (by rw [q2.size]; exact hj)) (g := mkF m pc Ls (.long x :: .int j :: .ref a :: st)) rfl rfl (hb hby hd)
  obtain ⟨t, o, hs, r⟩ := g T' ⟨_, X', Fr.snoc X' F q0, e' ▸ O.upd hi W fun c _ hc => hc.put _⟩
  exact ⟨t, o, sg _ hs, r⟩
theorem s_getf (H : Ok Z k R Q y b ml rt) {i j idx : Nat} {a : Addr} {C O n d : String} {fs : List Fd} {v : Value} (hd : decode b pc = .ok (.getfield idx, 3)) (w1 : Jvm.Cond.fieldLink y.cls idx O n d ∈ tables_1) (hi : M[i]? = some (a, Obj Z C fs)) (hj : fs[j]? = some (O, n, d, v)) (hp : pc + 3 = pc') (g : Go Z k cn sn M pc' Ls (v :: st)) : Go Z k cn sn M pc Ls (.ref a :: st) := by
  obtain ⟨p, l, e, R', s, m, args, below, meth, c, Q'⟩ := k
  obtain ⟨hx, hZ, hby, -, hown, -, -, -, ⟨a0, hw⟩, -⟩ := H
  subst hp
  intro T w
  obtain ⟨locs, X, F, OO⟩ := w
  obtain ⟨-, cl, q1, q2⟩ := OO.2.1 i _ hi
  obtain ⟨T', X', e', sg⟩ := getF X hx hZ hown (host := "") (Or.inl (hw _ w1)) Via.refl rfl ((q2.1 _ _ q1).2 j _ hj) (g := mkF m pc Ls (.ref a :: st)) rfl rfl (hb hby hd)
  obtain ⟨t, o, hs, r⟩ := g T' ⟨_, X', F, e' ▸ OO⟩
  exact ⟨t, o, sg _ hs, r⟩
theorem s_getfN (H : Ok Z k R Q y b ml rt) {i j idx : Nat} {a : Addr} {C O n d host : String} {fs : List Fd} {v : Value} (hd : decode b pc = .ok (.getfield idx, 3)) (w1 : Jvm.Cond.fieldLinkNest y.cls idx O n d host ∈ tables_1) (hi : M[i]? = some (a, Obj Z C fs)) (hj : fs[j]? = some (O, n, d, v)) (hp : pc + 3 = pc') (g : Go Z k cn sn M pc' Ls (v :: st)) : Go Z k cn sn M pc Ls (.ref a :: st) := by
  obtain ⟨p, l, e, R', s, m, args, below, meth, c, Q'⟩ := k
  obtain ⟨hx, hZ, hby, -, hown, -, -, -, ⟨a0, hw⟩, -⟩ := H
  subst hp
  intro T w
  obtain ⟨locs, X, F, OO⟩ := w
  obtain ⟨-, cl, q1, q2⟩ := OO.2.1 i _ hi
  obtain ⟨T', X', e', sg⟩ := getF X hx hZ hown (host := host) (Or.inr (hw _ w1)) Via.refl rfl ((q2.1 _ _ q1).2 j _ hj) (g := mkF m pc Ls (.ref a :: st)) rfl rfl (hb hby hd)
  obtain ⟨t, o, hs, r⟩ := g T' ⟨_, X', F, e' ▸ OO⟩
  exact ⟨t, o, sg _ hs, r⟩
theorem s_putf (H : Ok Z k R Q y b ml rt) {i j idx kk : Nat} {a : Addr} {C O n d : String} {fs : List Fd} {v v0 : Value} {ty : FieldType} (hd : decode b pc = .ok (.putfield idx, 3)) (w1 : Jvm.Cond.fieldLink y.cls idx O n d ∈ tables_1) (w2 : Jvm.Cond.lays C O n d ∈ tables_1 ∨ (Jvm.Cond.laysFinal C O n d ∈ tables_1 ∧ y.cls = O ∧ y.name = "<init>")) (w3 : Jvm.Cond.instantiable C kk ∈ tables_1)
    (hty : parseFieldDescriptor d = some ty) (hn : narrow ty v = v) (hf : fits ty v = true) (hi : M[i]? = some (a, Obj Z C fs)) (hj : fs[j]? = some (O, n, d, v0)) (hp : pc + 3 = pc') (g : Go Z k cn sn (M.set i (a, Obj Z C (fs.set j (O, n, d, v)))) pc' Ls st) : Go Z k cn sn M pc Ls (v :: .ref a :: st) := by
  obtain ⟨p, l, e, R', s, m, args, below, meth, c, Q'⟩ := k
  obtain ⟨hx, hZ, hby, -, hown, hnm, -, -, ⟨a0, hw⟩, -⟩ := H
  subst hp
  intro T w
  obtain ⟨locs, X, F, OO⟩ := w
  obtain ⟨q0, cl, q1, q2⟩ := OO.2.1 i _ hi
  obtain ⟨T', h', X', e', W, sg⟩ := putF X hx hZ hown (host := "") (Or.inl (hw _ w1)) Via.refl rfl ((q2.1 _ _ q1).2 j _ hj) (q2.1 _ _ q1).1 (w2.imp (fun q => hw _ q) fun q => ⟨hw _ q.1, q.2.1, hnm.trans q.2.2⟩) (hw _ w3) hty hn hf (g := mkF m pc Ls (v :: .ref a :: st)) rfl rfl (hb hby hd)
  obtain ⟨t, o, hs, r⟩ := g T' ⟨_, X', Fr.snoc X' F q0, e' ▸ OO.upd hi W fun c hc1 hc => hc.put hj hc1 W⟩
  exact ⟨t, o, sg _ hs, r⟩
def Dflt (C : String) (f : Fd) : Prop := (Jvm.Cond.lays C f.1 f.2.1 f.2.2.1 ∈ tables_1 ∨ Jvm.Cond.laysFinal C f.1 f.2.1 f.2.2.1 ∈ tables_1) ∧ ∃ ty, parseFieldDescriptor f.2.2.1 = some ty ∧ f.2.2.2 = defaultValue ty
theorem s_new (H : Ok Z k R Q y b ml rt) {idx n cn' sn' : Nat} {C : String} (fs : List Fd) (hd : decode b pc = .ok (.new idx, 3)) (w1 : Jvm.Cond.classLink y.cls idx C ∈ tables_1) (w2 : Jvm.Cond.instantiable C n ∈ tables_1) (w3 : Jvm.Cond.initialized C ∈ tables_1) (hD : ∀ f ∈ fs, Dflt C f) (hN : (fs.map fun f => f.2.1).Nodup) (hc : cn + 1 = cn') (hs : sn + n = sn') (hc' : cn' ≤ R.cells) (hs' : sn' ≤ R.slots) (hp : pc + 3 = pc')
    (g : ∀ a, Go Z k cn' sn' ((a, Obj Z C fs) :: M) pc' Ls (.ref a :: st)) : Go Z k cn sn M pc Ls st := by
  obtain ⟨p, l, e, R', s, m, args, below, meth, c, Q'⟩ := k
  obtain ⟨hx, hZ, hby, -, hown, hnm, -, -, ⟨a0, hw⟩, rfl, -⟩ := H
  subst hp hc hs
  intro T w
  obtain ⟨locs, X, F, OO⟩ := w
  obtain ⟨T', h', X', e', E, A, D, ⟨cell, hcell, -⟩, sg⟩ := newO X hx hZ hown (hw _ w1) (hw _ w2) (hw _ w3) rfl (g := mkF m pc Ls st) rfl (hb hby hd) hc' hs'
  have hL : ∀ f ∈ fs, Laid Z a0 C f.1 f.2.1 f.2.2.1 := fun f hf => (hD f hf).1.imp (fun q => hw _ q) fun q => hw _ q
  have hB : Obj Z C fs cell := by
    refine ⟨fun h2 a2 hc2 => ⟨exa_at_cell A hcell hc2, fun i f hf => ?_⟩, fun i j f f' hf hf' es => ?_⟩
    · have hm := List.mem_of_getElem? hf
      obtain ⟨-, ty, h1, h2⟩ := hD f hm
      rw [h2]
      exact fld_at_cell (D (hL f hm) h1) hcell hc2
    · obtain ⟨-, ty, h1, -⟩ := hD f (List.mem_of_getElem? hf)
      obtain ⟨-, ty', h1', -⟩ := hD f' (List.mem_of_getElem? hf')
      have hne : f.2.1 = f'.2.1 := Classical.byContradiction fun q => slot_ne (hL f (List.mem_of_getElem? hf)) (hL f' (List.mem_of_getElem? hf')) q h1 h1' es
      rw [List.nodup_iff_pairwise_ne, List.pairwise_iff_getElem] at hN
      obtain ⟨hi, rfl⟩ := List.getElem?_eq_some_iff.mp hf
      obtain ⟨hj, rfl⟩ := List.getElem?_eq_some_iff.mp hf'
      rcases Nat.lt_trichotomy i j with lt | rfl | lt
      · exact (hN i j (by simpa using hi) (by simpa using hj) lt (by simpa using hne)).elim
      · rfl
      · exact (hN j i (by simpa using hj) (by simpa using hi) lt (by simpa using hne.symm)).elim
  obtain ⟨t, o, hs, r⟩ := g _ T' ⟨_, X', F, e' ▸ OO.new E hcell hB⟩
  exact ⟨t, o, sg _ hs, r⟩
theorem s_newarr_int (H : Ok Z k R Q y b ml rt) {cn' sn' cap : Nat} {n : Int32} (hd : decode b pc = .ok (.newarray .int, 2)) (w1 : Jvm.Cond.arrayClass .int ∈ tables_1) (hn : ¬ n < 0) (hcap : n.toNatClampNeg ≤ cap) (hb8 : cap * 8 ≤ 536870912) (hc : cn + 1 = cn') (hs : sn + cap = sn') (hc' : cn' ≤ R.cells) (hs' : sn' ≤ R.slots) (hp : pc + 2 = pc')
    (g : ∀ a, Go Z k cn' sn' ((a, ArI Z .int (List.replicate n.toNatClampNeg 0)) :: M) pc' Ls (.ref a :: st)) : Go Z k cn sn M pc Ls (.int n :: st) := by
  obtain ⟨p, l, e, R', s, m, args, below, meth, c, Q'⟩ := k
  obtain ⟨hx, hZ, hby, -, hown, hnm, -, -, ⟨a0, hw⟩, rfl, -⟩ := H
  subst hp hc hs
  intro T w
  obtain ⟨locs, X, F, OO⟩ := w
  obtain ⟨T', h', cA, X', e', E, A, sg⟩ := newP X hx hZ (aty := .int) (hw _ w1) rfl (g := mkF m pc Ls (.int n :: st)) rfl (hb hby hd) rfl hn hcap hb8 hc' hs'
  have hB : ArI Z .int (List.replicate n.toNatClampNeg 0) (newA cA .int n) := ⟨A.2.1, A.2.2, by simp [newA, defaultValue], by simp; omega, fun x hx => by rw [List.eq_of_mem_replicate hx]; rfl⟩
  obtain ⟨t, o, hs, r⟩ := g _ T' ⟨_, X', F, e' ▸ OO.new E A.1 hB⟩
  exact ⟨t, o, sg _ hs, r⟩
theorem s_newarr_byte (H : Ok Z k R Q y b ml rt) {cn' sn' cap : Nat} {n : Int32} (hd : decode b pc = .ok (.newarray .byte, 2)) (w1 : Jvm.Cond.arrayClass .byte ∈ tables_1) (hn : ¬ n < 0) (hcap : n.toNatClampNeg ≤ cap) (hb8 : cap * 8 ≤ 536870912) (hc : cn + 1 = cn') (hs : sn + cap = sn') (hc' : cn' ≤ R.cells) (hs' : sn' ≤ R.slots) (hp : pc + 2 = pc')
    (g : ∀ a, Go Z k cn' sn' ((a, ArI Z .byte (List.replicate n.toNatClampNeg 0)) :: M) pc' Ls (.ref a :: st)) : Go Z k cn sn M pc Ls (.int n :: st) := by
  obtain ⟨p, l, e, R', s, m, args, below, meth, c, Q'⟩ := k
  obtain ⟨hx, hZ, hby, -, hown, hnm, -, -, ⟨a0, hw⟩, rfl, -⟩ := H
  subst hp hc hs
  intro T w
  obtain ⟨locs, X, F, OO⟩ := w
  obtain ⟨T', h', cA, X', e', E, A, sg⟩ := newP X hx hZ (aty := .byte) (hw _ w1) rfl (g := mkF m pc Ls (.int n :: st)) rfl (hb hby hd) rfl hn hcap hb8 hc' hs'
  have hB : ArI Z .byte (List.replicate n.toNatClampNeg 0) (newA cA .byte n) := ⟨A.2.1, A.2.2, by simp [newA, defaultValue], by simp; omega, fun x hx => by rw [List.eq_of_mem_replicate hx]; rfl⟩
  obtain ⟨t, o, hs, r⟩ := g _ T' ⟨_, X', F, e' ▸ OO.new E A.1 hB⟩
  exact ⟨t, o, sg _ hs, r⟩
theorem s_newarr_bool (H : Ok Z k R Q y b ml rt) {cn' sn' cap : Nat} {n : Int32} (hd : decode b pc = .ok (.newarray .boolean, 2)) (w1 : Jvm.Cond.arrayClass .boolean ∈ tables_1) (hn : ¬ n < 0) (hcap : n.toNatClampNeg ≤ cap) (hb8 : cap * 8 ≤ 536870912) (hc : cn + 1 = cn') (hs : sn + cap = sn') (hc' : cn' ≤ R.cells) (hs' : sn' ≤ R.slots) (hp : pc + 2 = pc')
    (g : ∀ a, Go Z k cn' sn' ((a, ArI Z .boolean (List.replicate n.toNatClampNeg 0)) :: M) pc' Ls (.ref a :: st)) : Go Z k cn sn M pc Ls (.int n :: st) := by
  obtain ⟨p, l, e, R', s, m, args, below, meth, c, Q'⟩ := k
  obtain ⟨hx, hZ, hby, -, hown, hnm, -, -, ⟨a0, hw⟩, rfl, -⟩ := H
  subst hp hc hs
  intro T w
  obtain ⟨locs, X, F, OO⟩ := w
  obtain ⟨T', h', cA, X', e', E, A, sg⟩ := newP X hx hZ (aty := .boolean) (hw _ w1) rfl (g := mkF m pc Ls (.int n :: st)) rfl (hb hby hd) rfl hn hcap hb8 hc' hs'
  have hB : ArI Z .boolean (List.replicate n.toNatClampNeg 0) (newA cA .boolean n) := ⟨A.2.1, A.2.2, by simp [newA, defaultValue], by simp; omega, fun x hx => by rw [List.eq_of_mem_replicate hx]; rfl⟩
  obtain ⟨t, o, hs, r⟩ := g _ T' ⟨_, X', F, e' ▸ OO.new E A.1 hB⟩
  exact ⟨t, o, sg _ hs, r⟩
theorem s_newarr_long (H : Ok Z k R Q y b ml rt) {cn' sn' cap : Nat} {n : Int32} (hd : decode b pc = .ok (.newarray .long, 2)) (w1 : Jvm.Cond.arrayClass .long ∈ tables_1) (hn : ¬ n < 0) (hcap : n.toNatClampNeg ≤ cap) (hb8 : cap * 8 ≤ 536870912) (hc : cn + 1 = cn') (hs : sn + cap = sn') (hc' : cn' ≤ R.cells) (hs' : sn' ≤ R.slots) (hp : pc + 2 = pc')
    (g : ∀ a, Go Z k cn' sn' ((a, ArL Z (List.replicate n.toNatClampNeg 0)) :: M) pc' Ls (.ref a :: st)) : Go Z k cn sn M pc Ls (.int n :: st) := by
  obtain ⟨p, l, e, R', s, m, args, below, meth, c, Q'⟩ := k
  obtain ⟨hx, hZ, hby, -, hown, hnm, -, -, ⟨a0, hw⟩, rfl, -⟩ := H
  subst hp hc hs
  intro T w
  obtain ⟨locs, X, F, OO⟩ := w
  obtain ⟨T', h', cA, X', e', E, A, sg⟩ := newP X hx hZ (aty := .long) (hw _ w1) rfl (g := mkF m pc Ls (.int n :: st)) rfl (hb hby hd) rfl hn hcap hb8 hc' hs'
  have hB : ArL Z (List.replicate n.toNatClampNeg 0) (newA cA .long n) := ⟨A.2.1, A.2.2, by simp [newA, defaultValue], by simp; omega⟩
  obtain ⟨t, o, hs, r⟩ := g _ T' ⟨_, X', F, e' ▸ OO.new E A.1 hB⟩
  exact ⟨t, o, sg _ hs, r⟩
/-! OWN KIT 3: contracts and calls -/
def MQ (Z : State) (rm : Room) (Q : Option Value → Hp → Prop) (U : State) (o : Outcome) (U' : State) : Prop := ∃ v L, o = .returned v ∧ (Fr Z.heap.size L ∧ ∃ M, Q v M ∧ Own Z U'.heap M) ∧ FrameEnd U o U' L rm.cells rm.slots
def Met (Z : State) (y : MethodName) (b : ByteArray) (ml : Nat) (rt : Option FieldType) (rm : Room) (as : List Value) (M : Hp) (Q : Option Value → Hp → Prop) : Prop :=
  ∀ (l : Launch) (h0 : Heap), Own Z h0 M → MetFree l y (head1 [Jvm.Cond.code y b ml rt] rm) (fun a U => a = as.toArray ∧ Z.Warmed39 U.vm ∧ U.heap = h0) (fun _ _ _ _ _ => True) (fun _ U o U' => ∃ v L, o = .returned v ∧ (Fr Z.heap.size L ∧ ∃ M, Q v M ∧ Own Z U'.heap M) ∧ FrameEnd U o U' L rm.cells rm.slots)
theorem met_of {ws : List Jvm.Cond} {as : List Value} {rm : Room} {h0 : Heap} (l : Launch) (hT : Tb Z) (hpl : plainFor y = true) (hef : ∀ m, entryFrame m as.toArray ml = mkF m 0 Ls []) (hO : Own Z h0 M) (body : ∀ k, Ok Z k rm Q y b ml rt → Go Z k 0 0 M 0 Ls []) :
    MetFree l y (head1 (Jvm.Cond.code y b ml rt :: ws) rm) (fun a U => a = as.toArray ∧ Z.Warmed39 U.vm ∧ U.heap = h0) (fun _ _ _ _ _ => True) (fun _ U o U' => ∃ v L, o = .returned v ∧ (Fr Z.heap.size L ∧ ∃ M, Q v M ∧ Own Z U'.heap M) ∧ FrameEnd U o U' L rm.cells rm.slots) := by
  refine MetFree.of_bodySF hpl hisR ?_
  intro p e s m args below meth c s₁ Bd hml0 hP hK
  obtain ⟨rfl, hZ, hh⟩ := hP
  have X0 : Stand p l e rm s m as.toArray below meth c s₁ [] 0 0 := Stand.of_body Bd
  have e0 : s₁.heap = h0 := by rw [← hh, Bd.state]; rfl
  obtain ⟨t, o, hs, r⟩ := body (p, l, e, rm, s, m, as.toArray, below, meth, c, Q) ⟨Bd.exec, hZ, Bd.bytes, hml0, findClass_of_methodNamed Bd.named, (name_of_methodNamed Bd.named Bd.method).1, Bd.returns, Bd.notSynchronized, hT, rfl, rfl⟩ s₁ ⟨[], X0, Fr.nil _, e0 ▸ hO⟩
  exact ⟨t, o, castTop (hef m) hs, r⟩
theorem Met.of {as : List Value} {rm : Room} (hT : Tb Z) (hpl : plainFor y = true) (hef : ∀ m, entryFrame m as.toArray ml = mkF m 0 Ls []) (body : ∀ k, Ok Z k rm Q y b ml rt → Go Z k 0 0 M 0 Ls []) : Met Z y b ml rt rm as M Q := fun l h0 hO => met_of l hT hpl hef hO body
theorem Met.mono {as : List Value} {rm : Room} {Q' : Option Value → Hp → Prop} (h : Met Z y b ml rt rm as M Q) (q : ∀ v M, Q v M → Q' v M) : Met Z y b ml rt rm as M Q' := fun l h0 hO p e ha hc hk s m args below hf happ hP hK => by
  obtain ⟨n, o, h1, h2, h3, v, L, h4, ⟨h5, M', h6, h7⟩, h8⟩ := h l h0 hO p e ha hc hk s m args below hf happ hP hK
  exact ⟨n, o, h1, h2, h3, v, L, h4, ⟨h5, M', q _ _ h6, h7⟩, h8⟩
theorem s_ret (H : Ok Z k R Q y b ml (some ty)) {i : Instr} {w : Value} (hd : decode b pc = .ok (i, 1)) (hn : narrow ty w = w)
    (hi : (i = .ireturn ∧ (ty = .int ∨ ty = .boolean ∨ ty = .byte ∨ ty = .char ∨ ty = .short) ∧ ∃ z, w = .int z) ∨ (i = .lreturn ∧ ty = .long ∧ ∃ z, w = .long z) ∨ (i = .dreturn ∧ ty = .double ∧ ∃ z, w = .double z) ∨ (i = .freturn ∧ ty = .float ∧ ∃ z, w = .float z) ∨ (i = .areturn ∧ ty.isReference = true ∧ w.isRef = true))
    (hc : cn ≤ R.cells) (hs : sn ≤ R.slots) (q : Q (some w) M) : Go Z k cn sn M pc Ls (w :: st) := by
  obtain ⟨p, l, e, R', s, m, args, below, meth, c, Q'⟩ := k
  obtain ⟨hx, hZ, hby, -, -, -, hret, hlk, -, rfl, rfl⟩ := H
  intro T w'
  obtain ⟨locs, X, F, O⟩ := w'
  obtain ⟨fs, hr, hrun, hended, hW, hsame⟩ := X.leave (v := some w) (fun h => by rw [hret] at h; cases h) hlk
  exact ⟨_, _, retOut X hx hret hn hi (hb hby hd) hr, hrun, hended, _, _, rfl, ⟨F, M, q, O⟩, ⟨_, rfl⟩, hW, hsame.mono hc hs⟩
theorem s_iret (H : Ok Z k R Q y b ml (some ty)) {z : Int32} (hd : decode b pc = .ok (.ireturn, 1)) (hn : narrow ty (.int z) = .int z) (ht : ty = .int ∨ ty = .boolean ∨ ty = .byte ∨ ty = .char ∨ ty = .short) (hc : cn ≤ R.cells) (hs : sn ≤ R.slots) (q : Q (some (.int z)) M) : Go Z k cn sn M pc Ls (.int z :: st) := s_ret H hd hn (Or.inl ⟨rfl, ht, z, rfl⟩) hc hs q
theorem s_lret (H : Ok Z k R Q y b ml (some .long)) {z : Int64} (hd : decode b pc = .ok (.lreturn, 1)) (hc : cn ≤ R.cells) (hs : sn ≤ R.slots) (q : Q (some (.long z)) M) : Go Z k cn sn M pc Ls (.long z :: st) := s_ret H hd rfl (Or.inr (Or.inl ⟨rfl, rfl, z, rfl⟩)) hc hs q
theorem s_aret (H : Ok Z k R Q y b ml (some ty)) {a : Addr} (hd : decode b pc = .ok (.areturn, 1)) (hn : narrow ty (.ref a) = .ref a) (ht : ty.isReference = true) (hc : cn ≤ R.cells) (hs : sn ≤ R.slots) (q : Q (some (.ref a)) M) : Go Z k cn sn M pc Ls (.ref a :: st) := s_ret H hd hn (Or.inr (Or.inr (Or.inr (Or.inr ⟨rfl, ht, rfl⟩)))) hc hs q
theorem s_vret (H : Ok Z k R Q y b ml none) (hd : decode b pc = .ok (.return_, 1)) (hc : cn ≤ R.cells) (hs : sn ≤ R.slots) (q : Q none M) : Go Z k cn sn M pc Ls [] := by
  obtain ⟨p, l, e, R', s, m, args, below, meth, c, Q'⟩ := k
  obtain ⟨hx, hZ, hby, -, -, -, hret, hlk, -, rfl, rfl⟩ := H
  intro T w'
  obtain ⟨locs, X, F, O⟩ := w'
  obtain ⟨fs, hr, hrun, hended, hW, hsame⟩ := X.leave (v := none) (fun _ => rfl) hlk
  exact ⟨_, _, X.returnOut hx hret (hb hby hd) hr, hrun, hended, _, _, rfl, ⟨F, M, q, O⟩, ⟨_, rfl⟩, hW, hsame.mono hc hs⟩
theorem s_objinit (H : Ok Z k R Q y b ml rt) {idx : Nat} {a : Addr} (hd : decode b pc = .ok (.invokespecial idx, 3)) (w1 : Jvm.Cond.methodLink y.cls idx Lib.objectInit ∈ tables_1) (w2 : Jvm.Cond.instanceMethod Lib.objectInit ∈ tables_1) (w3 : Jvm.Cond.code Lib.objectInit ⟨#[0xb1]⟩ 1 none ∈ tables_1) (hsz : Ls.size = ml) (hf : 1 ≤ R.frames) (hl : (st.map fun v => v.category).sum + 12 ≤ R.locals) (hp : pc + 3 = pc') (g : Go Z k cn sn M pc' Ls st) : Go Z k cn sn M pc Ls (.ref a :: st) := by
  obtain ⟨p, l, e, R', s, m, args, below, meth, c, Q'⟩ := k
  obtain ⟨hx, hZ, hby, hml, hown, hnm, -, -, ⟨a0, hw⟩, rfl, -⟩ := H
  subst hp
  intro T w
  obtain ⟨locs, X, F, OO⟩ := w
  obtain ⟨T', X', e', sg⟩ := initO X hx hZ hown (hw _ w1) (hw _ w2) (hw _ w3) rfl (g := mkF m pc Ls (.ref a :: st)) rfl (by rw [hml]; exact hsz) rfl (hb hby hd) hf (W := (st.map fun v => v.category).sum) (by show 2 * 0 + _ ≤ _; omega) hl
  obtain ⟨t, o, hs, r⟩ := g T' ⟨_, X', F, e' ▸ OO⟩
  exact ⟨t, o, sg _ hs, r⟩
theorem s_static (H : Ok Z k R Q y b ml rt) {idx cn' sn' : Nat} {y' : MethodName} {b' : ByteArray} {ml' : Nat} {rt' : Option FieldType} {rm : Room} {as rest : List Value} {Q' : Option Value → Hp → Prop} {sig : MethodDescriptor}
    (hM : Met Z y' b' ml' rt' rm as M Q') (hd : decode b pc = .ok (.invokestatic idx, 3)) (w1 : Jvm.Cond.methodLink y.cls idx y' ∈ tables_1) (w2 : Jvm.Cond.static y' ∈ tables_1) (w3 : Jvm.Cond.initialized y'.cls ∈ tables_1) (w4 : Jvm.Cond.code y' b' ml' rt' ∈ tables_1) (hy : y'.cls ≠ "java/lang/invoke/MethodHandle" ∧ y'.cls ≠ "java/lang/invoke/VarHandle")
    (hsig : parseMethodDescriptor y'.desc = some sig) (hlen : as.length = sig.parameters.length) (hst : st = as.reverse ++ rest) (hsz : Ls.size = ml) (hf : rm.frames + 1 ≤ R.frames) (hl : (rest.map fun v => v.category).sum + (ml' + 11) + rm.locals ≤ R.locals) (hc : cn + rm.cells = cn') (hs : sn + rm.slots = sn') (hc' : cn' ≤ R.cells) (hs' : sn' ≤ R.slots) (hp : pc + 3 = pc')
    (g : ∀ v M', Q' v M' → Go Z k cn' sn' M' pc' Ls (v.toList ++ rest)) : Go Z k cn sn M pc Ls st := by
  obtain ⟨p, l, e, R', s, m, args, below, meth, c, Q''⟩ := k
  obtain ⟨hx, hZ, hby, hml, hown, hnm, -, -, ⟨a0, hw⟩, rfl, -⟩ := H
  subst hp hc hs hst
  intro T w
  obtain ⟨locs, X, F, OO⟩ := w
  obtain ⟨v, _, ⟨T', L', k', n'⟩, -, X', ⟨Lc, ⟨hF, M', hQ, hO⟩, q1, q2, q3⟩, sg⟩ := Jvm.LawKit.callS X hx (y := y') hown (mvT hZ (hw _ w1)) (mvT hZ (hw _ w2)) (mvT hZ (hw _ w3)) (mvT hZ (hw _ w4)) hy (backOf (W := (rest.map fun v => v.category).sum) (Q := fun v h L => Fr Z.heap.size L ∧ ∃ M', Q' v M' ∧ Own Z h M') (hM l _ OO) hZ (hw _ w4) (hw _ w3) hf hl) (g := mkF m pc Ls (as.reverse ++ rest)) rfl (by rw [hml]; exact hsz) (argsL := as) (rest := rest) (lenOf (ps := sig.parameters) (r := sig.returnType) hsig hlen) rfl (by show 2 * 0 + _ ≤ _; omega) (hb hby hd) (fun _ _ => ⟨rfl, rfl, hc', hs'⟩)
  dsimp only [Pt.U, Pt.locs, Pt.cells, Pt.slots] at X' q1 q2 q3 sg hO
  subst q1 q2 q3
  obtain ⟨t, o, hs, r⟩ := g v M' hQ T' ⟨_, X', Fr.app F hF, hO⟩
  exact ⟨t, o, sg _ hs, r⟩
theorem s_init (H : Ok Z k R Q y b ml rt) {idx cn' sn' : Nat} {a : Addr} {y' : MethodName} {b' : ByteArray} {ml' : Nat} {rm : Room} {as rest : List Value} {Q' : Option Value → Hp → Prop} {sig : MethodDescriptor}
    (hM : Met Z y' b' ml' none rm (.ref a :: as) M Q') (hd : decode b pc = .ok (.invokespecial idx, 3)) (hy1 : y'.name = "<init>") (w1 : Jvm.Cond.methodLink y.cls idx y' ∈ tables_1) (w2 : Jvm.Cond.instanceMethod y' ∈ tables_1) (w3 : Jvm.Cond.initialized y'.cls ∈ tables_1) (w4 : Jvm.Cond.code y' b' ml' none ∈ tables_1) (hy : y'.cls ≠ "java/lang/invoke/MethodHandle" ∧ y'.cls ≠ "java/lang/invoke/VarHandle")
    (hsig : parseMethodDescriptor y'.desc = some sig) (hlen : as.length = sig.parameters.length) (hst : st = as.reverse ++ .ref a :: rest) (hsz : Ls.size = ml) (hf : rm.frames + 1 ≤ R.frames) (hl : (rest.map fun v => v.category).sum + (ml' + 11) + rm.locals ≤ R.locals) (hc : cn + rm.cells = cn') (hs : sn + rm.slots = sn') (hc' : cn' ≤ R.cells) (hs' : sn' ≤ R.slots) (hp : pc + 3 = pc')
    (g : ∀ v M', Q' v M' → Go Z k cn' sn' M' pc' Ls (v.toList ++ rest)) : Go Z k cn sn M pc Ls st := by
  obtain ⟨p, l, e, R', s, m, args, below, meth, c, Q''⟩ := k
  obtain ⟨hx, hZ, hby, hml, hown, hnm, -, -, ⟨a0, hw⟩, rfl, -⟩ := H
  subst hp hc hs hst
  intro T w
  obtain ⟨locs, X, F, OO⟩ := w
  obtain ⟨v, _, ⟨T', L', k', n'⟩, -, X', ⟨Lc, ⟨hF, M', hQ, hO⟩, q1, q2, q3⟩, sg⟩ := X.specialBack hx (y := y') hy1 hown (mvT hZ (hw _ w1)) (mvT hZ (hw _ w2)) (mvT hZ (hw _ w4)) hy (backOf (W := (rest.map fun v => v.category).sum) (Q := fun v h L => Fr Z.heap.size L ∧ ∃ M', Q' v M' ∧ Own Z h M') (hM l _ OO) hZ (hw _ w4) (hw _ w3) hf hl) (g := mkF m pc Ls (as.reverse ++ .ref a :: rest)) rfl (by rw [hml]; exact hsz) (Steps.refl _) (a := a) (argsL := as) (rest := rest) (lenOf (ps := sig.parameters) (r := sig.returnType) hsig hlen) rfl (by show 2 * 0 + _ ≤ _; omega) (hb hby hd) (fun _ _ => ⟨rfl, rfl, hc', hs'⟩)
  dsimp only [Pt.U, Pt.locs, Pt.cells, Pt.slots] at X' q1 q2 q3 sg hO
  subst q1 q2 q3
  obtain ⟨t, o, hs, r⟩ := g v M' hQ T' ⟨_, X', Fr.app F hF, hO⟩
  exact ⟨t, o, sg.trans hs, r⟩
theorem s_virtual (H : Ok Z k R Q y b ml rt) {i idx cn' sn' : Nat} {a : Addr} {C : String} {fs : List Fd} {y' : MethodName} {b' : ByteArray} {ml' : Nat} {rt' : Option FieldType} {rm : Room} {as rest : List Value} {Q' : Option Value → Hp → Prop} {sig : MethodDescriptor}
    (hM : Met Z y' b' ml' rt' rm (.ref a :: as) M Q') (hd : decode b pc = .ok (.invokevirtual idx, 3)) (hi : M[i]? = some (a, Obj Z C fs)) (w1 : Jvm.Cond.methodLink y.cls idx y' ∈ tables_1) (w2 : Jvm.Cond.declares y' ∈ tables_1) (w5 : Jvm.Cond.selects C y' y' ∈ tables_1) (w6 : Jvm.Cond.instanceMethod y' ∈ tables_1) (w3 : Jvm.Cond.initialized y'.cls ∈ tables_1) (w4 : Jvm.Cond.code y' b' ml' rt' ∈ tables_1) (hy : y'.cls ≠ "java/lang/invoke/MethodHandle" ∧ y'.cls ≠ "java/lang/invoke/VarHandle")
    (hsig : parseMethodDescriptor y'.desc = some sig) (hlen : as.length = sig.parameters.length) (hst : st = as.reverse ++ .ref a :: rest) (hsz : Ls.size = ml) (hf : rm.frames + 1 ≤ R.frames) (hl : (rest.map fun v => v.category).sum + (ml' + 11) + rm.locals ≤ R.locals) (hc : cn + rm.cells = cn') (hs : sn + rm.slots = sn') (hc' : cn' ≤ R.cells) (hs' : sn' ≤ R.slots) (hp : pc + 3 = pc')
    (g : ∀ v M', Q' v M' → Go Z k cn' sn' M' pc' Ls (v.toList ++ rest)) : Go Z k cn sn M pc Ls st := by
  obtain ⟨p, l, e, R', s, m, args, below, meth, c, Q''⟩ := k
  obtain ⟨hx, hZ, hby, hml, hown, hnm, -, -, ⟨a0, hw⟩, rfl, -⟩ := H
  subst hp hc hs hst
  intro T w
  obtain ⟨locs, X, F, OO⟩ := w
  obtain ⟨-, cl, c1, c2⟩ := OO.2.1 i _ hi
  obtain ⟨cq, kq, qa, qb, qc⟩ := isOf hZ rfl (c2.1 _ _ c1).1
  obtain ⟨v, _, ⟨T', L', k', n'⟩, -, X', ⟨Lc, ⟨hF, M', hQ, hO⟩, q1, q2, q3⟩, sg⟩ := X.virtualBack hx (y := y') (z := y') hown (mvT hZ (hw _ w1)) (mvT hZ (hw _ w2)) (notFace_of_selects (args := #[]) (mvT hZ (hw _ w5))) (mvT hZ (hw _ w5)) (mvT hZ (hw _ w6)) hy (backOf (W := (rest.map fun v => v.category).sum) (Q := fun v h L => Fr Z.heap.size L ∧ ∃ M', Q' v M' ∧ Own Z h M') (hM l _ OO) hZ (hw _ w4) (hw _ w3) hf hl) qa qc (g := mkF m pc Ls (as.reverse ++ .ref a :: rest)) rfl (by rw [hml]; exact hsz) (Steps.refl _) (argsL := as) (rest := rest) (lenOf (ps := sig.parameters) (r := sig.returnType) hsig hlen) rfl (by show 2 * 0 + _ ≤ _; omega) (hb hby hd) (fun _ _ => ⟨rfl, rfl, hc', hs'⟩)
  dsimp only [Pt.U, Pt.locs, Pt.cells, Pt.slots] at X' q1 q2 q3 sg hO
  subst q1 q2 q3
  obtain ⟨t, o, hs, r⟩ := g v M' hQ T' ⟨_, X', Fr.app F hF, hO⟩
  exact ⟨t, o, sg.trans hs, r⟩
theorem s_priv (H : Ok Z k R Q y b ml rt) {i idx cn' sn' : Nat} {a : Addr} {C : String} {fs : List Fd} {y' y0 : MethodName} {b' : ByteArray} {ml' : Nat} {rt' : Option FieldType} {rm : Room} {as rest : List Value} {Q' : Option Value → Hp → Prop} {sig : MethodDescriptor}
    (hM : Met Z y' b' ml' rt' rm (.ref a :: as) M Q') (hd : decode b pc = .ok (.invokevirtual idx, 3)) (hi : M[i]? = some (a, Obj Z C fs)) (w1 : Jvm.Cond.methodLink y.cls idx y' ∈ tables_1) (w2 : Jvm.Cond.privateMethod y' ∈ tables_1) (w5 : Jvm.Cond.selects y'.cls y0 y0 ∈ tables_1) (h0 : y0.cls = y'.cls) (w6 : Jvm.Cond.instanceMethod y' ∈ tables_1) (w3 : Jvm.Cond.initialized y'.cls ∈ tables_1) (w4 : Jvm.Cond.code y' b' ml' rt' ∈ tables_1) (hy : y'.cls ≠ "java/lang/invoke/MethodHandle" ∧ y'.cls ≠ "java/lang/invoke/VarHandle")
    (hsig : parseMethodDescriptor y'.desc = some sig) (hlen : as.length = sig.parameters.length) (hst : st = as.reverse ++ .ref a :: rest) (hsz : Ls.size = ml) (hf : rm.frames + 1 ≤ R.frames) (hl : (rest.map fun v => v.category).sum + (ml' + 11) + rm.locals ≤ R.locals) (hc : cn + rm.cells = cn') (hs : sn + rm.slots = sn') (hc' : cn' ≤ R.cells) (hs' : sn' ≤ R.slots) (hp : pc + 3 = pc')
    (g : ∀ v M', Q' v M' → Go Z k cn' sn' M' pc' Ls (v.toList ++ rest)) : Go Z k cn sn M pc Ls st := by
  obtain ⟨p, l, e, R', s, m, args, below, meth, c, Q''⟩ := k
  obtain ⟨hx, hZ, hby, hml, hown, hnm, -, -, ⟨a0, hw⟩, rfl, -⟩ := H
  subst hp hc hs hst
  intro T w
  obtain ⟨locs, X, F, OO⟩ := w
  obtain ⟨-, cl, c1, c2⟩ := OO.2.1 i _ hi
  obtain ⟨cl', d1, d2⟩ := (c2.1 _ _ c1).1.cell
  have hpriv : s.PrivateAt y' := Cond.privateMethod_at (mvP hZ (hw _ w2) (args := #[]))
  obtain ⟨mk, mM, hn, hm, hst, hab⟩ := Cond.instanceMethod_spec (mvT (args := #[]) hZ (hw _ w6))
  obtain ⟨c3, r3, m3, -, -, n3, -, kP, hk, hkI⟩ := Cond.selects_spec (mvT (args := #[]) hZ (hw _ w5))
  have e3 : m3.cls = mk.cls := by
    have u1 := findClass_of_methodNamed n3
    have u2 := findClass_of_methodNamed hn
    rw [h0, u2] at u1; exact (Option.some.inj u1).symm
  rw [e3] at hk
  obtain ⟨mM', cM, hm2, -, -, -, -, -, -, hsg⟩ := Cond.code_spec hn (mvT (args := #[]) hZ (hw _ w4))
  cases hm.symm.trans hm2
  obtain ⟨vm₁, X₁, st₁⟩ := X.invokevirtual hx hown (mvT hZ (hw _ w1)) hn hm hst hk hkI hy (a := a) d1 d2 (selectMethod_private hm (hpriv mk _ hn hm)) hm hab hk hkI (g := mkF m pc Ls (as.reverse ++ .ref a :: rest)) rfl (argsL := as) (rest := rest) (lenOf (ps := sig.parameters) (r := sig.returnType) hsig hlen _ hsg) rfl (hb hby hd)
  have hK := backOf (l := l) (p := p) (e := e) (below := below) (R := R') (args := args) (len := 3) (W := (rest.map fun v => v.category).sum) (Q := fun v h L => Fr Z.heap.size L ∧ ∃ M', Q' v M' ∧ Own Z h M') (hM l _ OO) hZ (hw _ w4) (hw _ w3) hf hl
  obtain ⟨v, ⟨T', L', k', n'⟩, X', ⟨Lc, ⟨hF, M', hQ, hO⟩, q1, q2, q3⟩, sg⟩ := hK m meth c ⟨T.setVm vm₁, locs, cn, sn⟩ (mkF m pc Ls rest) (.invokevirtual idx) mk (.ref a :: as).toArray X₁ rfl (by rw [hml]; exact hsz) (hb hby hd) (by show 2 * 0 + (rest.map fun v => v.category).sum ≤ _; omega) (X₁.named hn) ⟨rfl, rfl, hc', hs'⟩
  dsimp only [Pt.U, Pt.locs, Pt.cells, Pt.slots] at X' q1 q2 q3 sg hO
  subst q1 q2 q3
  obtain ⟨t, o, hs, r⟩ := g v M' hQ T' ⟨_, X', Fr.app F hF, hO⟩
  exact ⟨t, o, st₁ _ (fun acts => by rw [doInvoke_state]; exact sg.trans hs), r⟩
end Kit
theorem own_nat {m : Nat} (h : m < 2147483648) : m.toInt32.toNatClampNeg = m ∧ ¬ m.toInt32 < 0 ∧ m.toInt32.toInt = m := by
  have e : m.toInt32.toInt = m := Int32.toInt_ofNat_small (by omega)
  refine ⟨?_, ?_, e⟩
  · show m.toInt32.toInt.toNat = m
    rw [e]; rfl
  · rw [Int32.lt_iff_toInt_lt, e, show (0 : Int32).toInt = 0 from by decide]; omega
theorem own_lt {m n : Nat} (h : m < 2147483648) (h' : n < 2147483648) : m.toInt32 < n.toInt32 ↔ m < n := by rw [Int32.lt_iff_toInt_lt, (own_nat h).2.2, (own_nat h').2.2]; omega
theorem own_le {m n : Nat} (h : m < 2147483648) (h' : n < 2147483648) : m.toInt32 ≤ n.toInt32 ↔ m ≤ n := by rw [Int32.le_iff_toInt_le, (own_nat h).2.2, (own_nat h').2.2]; omega
theorem own_succ (m : Nat) : m.toInt32 + 1 = (m + 1).toInt32 := by
  show Int32.ofNat m + Int32.ofNat 1 = Int32.ofNat (m + 1)
  rw [← Int32.ofNat_add]
theorem allN {α : Type} {P : α → Prop} : ∀ x ∈ ([] : List α), P x := fun _ q => nomatch q
theorem allC {α : Type} {P : α → Prop} {z : α} {L : List α} (q : P z) (r : ∀ x ∈ L, P x) : ∀ x ∈ z :: L, P x := fun x h => (List.mem_cons.mp h).elim (fun u => u ▸ q) (r x)
/-! OWN KIT 4: System.arraycopy -/
theorem own_us {α : Type} {f : α → Value} {vs : List α} {d : α} {s n : Nat} (h : s + n ≤ vs.length) : ((List.range n).map fun i => (vs.map f).getD (s + i) (f d)) = (((vs.drop s).take n).map f) := by
  apply List.ext_getElem?
  intro i
  simp only [List.getElem?_map, List.getElem?_take, List.getElem?_drop]
  rcases Nat.lt_or_ge i n with lt | ge
  · rw [List.getElem?_range lt, if_pos lt, List.getElem?_eq_getElem (by omega)]
    simp [List.getD_eq_getElem?_getD, List.getElem?_eq_getElem (show s + i < vs.length from by omega)]
  · rw [List.getElem?_eq_none (by simpa using ge), if_neg (by omega)]; rfl
theorem own_back {α : Type} {f : α → Value} {d : α} {vs : List α} {c : Cell} {n : Int32} (hs : c.slots.size = n.toNatClampNeg) (hn : n.toNatClampNeg = vs.length) (hH : Has c (vs.map f) (f d)) : c.slots = (vs.map f).toArray := by
  apply Array.ext_getElem?
  intro i
  rcases Nat.lt_or_ge i c.slots.size with lt | ge
  · rw [hH i lt]
    have : i < vs.length := by omega
    simp [List.getD_eq_getElem?_getD, List.getElem?_eq_getElem this]
  · rw [Array.getElem?_eq_none ge]
    symm
    apply Array.getElem?_eq_none
    simp; omega
theorem arv_L {Z : State} {vs : List Int64} {c : Cell} {h : Heap} {a : Addr} (B : ArL Z vs c) (hc : h[a]? = some c) : Arv Z h a c.cls .long vs.length.toInt32 (vs.map Value.long) (Value.long 0) := by
  have hl : vs.length < 2147483648 := B.2.2.2
  refine ⟨c, B.arr hc, rfl, by rw [B.size, (own_nat hl).1], (own_nat hl).2.1, fun i hi => ?_, fun i hi => ?_⟩
  · rw [B.size] at hi
    rw [B.2.2.1]
    simp [List.getD_eq_getElem?_getD, List.getElem?_eq_getElem hi]
  · rw [B.size] at hi
    rw [List.getD_eq_getElem?_getD, List.getElem?_map, List.getElem?_eq_getElem hi]
    rfl
theorem s_acopy_L {Z : State} {k : Cx} {R : Room} {Q : Option Value → Hp → Prop} {y : MethodName} {b : ByteArray} {ml : Nat} {rt : Option FieldType} {cn sn : Nat} {M : Hp} {pc pc' : Nat} {Ls : Array Slot} {st : List Value} (H : Ok Z k R Q y b ml rt) {i j idx : Nat} {a a' : Addr} {vs vd : List Int64} {sp dp nn : Int32} (s d n : Nat) (hd : decode b pc = .ok (.invokestatic idx, 3)) (w1 : Jvm.Cond.methodLink y.cls idx Jvm.Stand.acN ∈ tables_1) (w2 : Jvm.Cond.native Jvm.Stand.acN ∈ tables_1) (w3 : Jvm.Cond.static Jvm.Stand.acN ∈ tables_1) (w4 : Jvm.Cond.initialized "java/lang/System" ∈ tables_1)
    (hi : M[i]? = some (a, ArL Z vs)) (hj : M[j]? = some (a', ArL Z vd)) (es : sp = s.toInt32) (ed : dp = d.toInt32) (en : nn = n.toInt32) (h1 : s + n ≤ vs.length) (h2 : d + n ≤ vd.length) (hsz : Ls.size = ml) (hf : 1 ≤ R.frames) (hlo : (st.map fun v => v.category).sum + (nativeFrameWords "java/lang/System" "arraycopy" 5 + 11) ≤ R.locals) (hp : pc + 3 = pc')
    (g : Go Z k cn sn (M.set j (a', ArL Z (vd.take d ++ (vs.drop s).take n ++ vd.drop (d + n)))) pc' Ls st) : Go Z k cn sn M pc Ls (.int nn :: .int dp :: .ref a' :: .int sp :: .ref a :: st) := by
  obtain ⟨p, l, e, R', s', m, args, below, meth, c, Q'⟩ := k
  obtain ⟨hx, hZ, hby, hml, hown, -, -, -, ⟨a0, hw⟩, rfl, -⟩ := H
  subst hp es ed en
  intro T w
  obtain ⟨locs, X, F, O⟩ := w
  obtain ⟨q0, cs, q1, q2⟩ := O.2.1 i _ hi
  obtain ⟨p0, cd, p1, p2⟩ := O.2.1 j _ hj
  have ls : vs.length < 2147483648 := q2.2.2.2
  have ld : vd.length < 2147483648 := p2.2.2.2
  obtain ⟨T', h', L, X', e', F', K, B, sg⟩ := cpA X hx hZ hown (hw _ w1) (hw _ w2) (hw _ w3) (hw _ w4) rfl (arv_L q2 q1) (arv_L p2 p1) (Or.inl ⟨rfl, rfl⟩) (sp := s.toInt32) (dp := d.toInt32) (nn := n.toInt32) (own_nat (by omega)).2.1 (own_nat (by omega)).2.1 (own_nat (by omega)).2.1 (by rw [(own_nat (by omega)).1, (own_nat (by omega)).1, (own_nat ls).1]; exact h1) (by rw [(own_nat (by omega)).1, (own_nat (by omega)).1, (own_nat ld).1]; exact h2) rfl (by rw [(own_nat (by omega)).1, (own_nat (by omega)).1, List.length_map]; exact h2) F p0 (g := mkF m pc Ls (.int n.toInt32 :: .int d.toInt32 :: .ref a' :: .int s.toInt32 :: .ref a :: st)) rfl (by rw [hml]; exact hsz) rfl (hb hby hd) hf (W := (st.map fun v => v.category).sum) (by show 2 * 0 + _ ≤ _; omega) hlo
  rw [(own_nat (show n < 2147483648 by omega)).1, (own_nat (show d < 2147483648 by omega)).1, (own_nat (show s < 2147483648 by omega)).1, own_us h1] at B
  have eL : (vd.map Value.long).take d ++ ((vs.drop s).take n).map Value.long ++ (vd.map Value.long).drop (d + n) = (vd.take d ++ (vs.drop s).take n ++ vd.drop (d + n)).map Value.long := by simp [List.map_append, List.map_take, List.map_drop]
  rw [eL] at B
  have len : (vd.take d ++ (vs.drop s).take n ++ vd.drop (d + n)).length = vd.length := by simp; omega
  obtain ⟨c', A', k1, k2, k3, k4, k5⟩ := B
  have hc' : ArL Z (vd.take d ++ (vs.drop s).take n ++ vd.drop (d + n)) c' := by
    refine ⟨A'.2.1, A'.2.2, own_back k2 (by rw [(own_nat ld).1, len]) k4, by rw [len]; exact ld⟩
  obtain ⟨t, o, hs, r⟩ := g T' ⟨_, X', F', e' ▸ O.ch hj K.1 (fun x c hx ne => K.2.1 x c hx (by simpa using ne)) ⟨c', A'.1, hc'⟩⟩
  exact ⟨t, o, sg _ hs, r⟩
theorem arv_I {Z : State} {ty : FieldType} {vs : List Int32} {c : Cell} {h : Heap} {a : Addr} (B : ArI Z ty vs c) (hc : h[a]? = some c) : Arv Z h a c.cls ty vs.length.toInt32 (vs.map Value.int) (Value.int 0) := by
  have hl : vs.length < 2147483648 := B.2.2.2.1
  refine ⟨c, B.arr hc, rfl, by rw [B.size, (own_nat hl).1], (own_nat hl).2.1, fun i hi => ?_, fun i hi => ?_⟩
  · rw [B.size] at hi
    rw [B.2.2.1]
    simp [List.getD_eq_getElem?_getD, List.getElem?_eq_getElem hi]
  · rw [B.size] at hi
    rw [List.getD_eq_getElem?_getD, List.getElem?_map, List.getElem?_eq_getElem hi]
    exact B.2.2.2.2 _ (List.getElem_mem hi)
theorem s_acopy_I {Z : State} {k : Cx} {R : Room} {Q : Option Value → Hp → Prop} {y : MethodName} {b : ByteArray} {ml : Nat} {rt : Option FieldType} {cn sn : Nat} {M : Hp} {pc pc' : Nat} {Ls : Array Slot} {st : List Value} (H : Ok Z k R Q y b ml rt) {ty : FieldType} {i j idx : Nat} {a a' : Addr} {vs vd : List Int32} {sp dp nn : Int32} (s d n : Nat) (hd : decode b pc = .ok (.invokestatic idx, 3)) (w1 : Jvm.Cond.methodLink y.cls idx Jvm.Stand.acN ∈ tables_1) (w2 : Jvm.Cond.native Jvm.Stand.acN ∈ tables_1) (w3 : Jvm.Cond.static Jvm.Stand.acN ∈ tables_1) (w4 : Jvm.Cond.initialized "java/lang/System" ∈ tables_1)
    (hi : M[i]? = some (a, ArI Z ty vs)) (hj : M[j]? = some (a', ArI Z ty vd)) (hrk : refKind ty = false) (es : sp = s.toInt32) (ed : dp = d.toInt32) (en : nn = n.toInt32) (h1 : s + n ≤ vs.length) (h2 : d + n ≤ vd.length) (hsz : Ls.size = ml) (hf : 1 ≤ R.frames) (hlo : (st.map fun v => v.category).sum + (nativeFrameWords "java/lang/System" "arraycopy" 5 + 11) ≤ R.locals) (hp : pc + 3 = pc')
    (g : Go Z k cn sn (M.set j (a', ArI Z ty (vd.take d ++ (vs.drop s).take n ++ vd.drop (d + n)))) pc' Ls st) : Go Z k cn sn M pc Ls (.int nn :: .int dp :: .ref a' :: .int sp :: .ref a :: st) := by
  obtain ⟨p, l, e, R', s', m, args, below, meth, c, Q'⟩ := k
  obtain ⟨hx, hZ, hby, hml, hown, -, -, -, ⟨a0, hw⟩, rfl, -⟩ := H
  subst hp es ed en
  intro T w
  obtain ⟨locs, X, F, O⟩ := w
  obtain ⟨q0, cs, q1, q2⟩ := O.2.1 i _ hi
  obtain ⟨p0, cd, p1, p2⟩ := O.2.1 j _ hj
  have ls : vs.length < 2147483648 := q2.2.2.2.1
  have ld : vd.length < 2147483648 := p2.2.2.2.1
  obtain ⟨T', h', L, X', e', F', K, B, sg⟩ := cpA X hx hZ hown (hw _ w1) (hw _ w2) (hw _ w3) (hw _ w4) rfl (arv_I q2 q1) (arv_I p2 p1) (Or.inl ⟨rfl, hrk⟩) (sp := s.toInt32) (dp := d.toInt32) (nn := n.toInt32) (own_nat (by omega)).2.1 (own_nat (by omega)).2.1 (own_nat (by omega)).2.1 (by rw [(own_nat (by omega)).1, (own_nat (by omega)).1, (own_nat ls).1]; exact h1) (by rw [(own_nat (by omega)).1, (own_nat (by omega)).1, (own_nat ld).1]; exact h2) rfl (by rw [(own_nat (by omega)).1, (own_nat (by omega)).1, List.length_map]; exact h2) F p0 (g := mkF m pc Ls (.int n.toInt32 :: .int d.toInt32 :: .ref a' :: .int s.toInt32 :: .ref a :: st)) rfl (by rw [hml]; exact hsz) rfl (hb hby hd) hf (W := (st.map fun v => v.category).sum) (by show 2 * 0 + _ ≤ _; omega) hlo
  rw [(own_nat (show n < 2147483648 by omega)).1, (own_nat (show d < 2147483648 by omega)).1, (own_nat (show s < 2147483648 by omega)).1, own_us h1] at B
  have eL : (vd.map Value.int).take d ++ ((vs.drop s).take n).map Value.int ++ (vd.map Value.int).drop (d + n) = (vd.take d ++ (vs.drop s).take n ++ vd.drop (d + n)).map Value.int := by simp [List.map_append, List.map_take, List.map_drop]
  rw [eL] at B
  have len : (vd.take d ++ (vs.drop s).take n ++ vd.drop (d + n)).length = vd.length := by simp; omega
  obtain ⟨c', A', k1, k2, k3, k4, k5⟩ := B
  have hc' : ArI Z ty (vd.take d ++ (vs.drop s).take n ++ vd.drop (d + n)) c' := by
    refine ⟨A'.2.1, A'.2.2, own_back k2 (by rw [(own_nat ld).1, len]) k4, by rw [len]; exact ld, fun x hx => ?_⟩
    simp only [List.mem_append] at hx
    rcases hx with (hx | hx) | hx
    · exact p2.2.2.2.2 x (List.mem_of_mem_take hx)
    · exact q2.2.2.2.2 x (List.mem_of_mem_drop (List.mem_of_mem_take hx))
    · exact p2.2.2.2.2 x (List.mem_of_mem_drop hx)
  obtain ⟨t, o, hs, r⟩ := g T' ⟨_, X', F', e' ▸ O.ch hj K.1 (fun x c hx ne => K.2.1 x c hx (by simpa using ne)) ⟨c', A'.1, hc'⟩⟩
  exact ⟨t, o, sg _ hs, r⟩
abbrev y_1 : MethodName := ⟨"com/example/thorough_paths/thoroughpaths/service/Nodes", "<init>", "(I)V"⟩
theorem d1_0 : decode prog_105_method_2_code 0 = .ok (.aload_n 0, 1) := by decide +kernel
theorem d1_1 : decode prog_105_method_2_code 1 = .ok (.invokespecial 7, 3) := by decide +kernel
theorem d1_4 : decode prog_105_method_2_code 4 = .ok (.aload_n 0, 1) := by decide +kernel
theorem d1_5 : decode prog_105_method_2_code 5 = .ok (.iconst 0, 1) := by decide +kernel
theorem d1_6 : decode prog_105_method_2_code 6 = .ok (.putfield 12, 3) := by decide +kernel
theorem d1_9 : decode prog_105_method_2_code 9 = .ok (.aload_n 0, 1) := by decide +kernel
theorem d1_10 : decode prog_105_method_2_code 10 = .ok (.iload_n 1, 1) := by decide +kernel
theorem d1_11 : decode prog_105_method_2_code 11 = .ok (.iconst 1, 1) := by decide +kernel
theorem d1_12 : decode prog_105_method_2_code 12 = .ok (.invokestatic 16, 3) := by decide +kernel
theorem d1_15 : decode prog_105_method_2_code 15 = .ok (.newarray .int, 2) := by decide +kernel
theorem d1_17 : decode prog_105_method_2_code 17 = .ok (.putfield 22, 3) := by decide +kernel
theorem d1_20 : decode prog_105_method_2_code 20 = .ok (.return_, 1) := by decide +kernel
theorem pl_1 : plainFor y_1 = true := plainFor_of_name (by first | (simp [plainName, overriddenIn]; done) | decide +kernel)
theorem pd_1 : parseMethodDescriptor "(I)V" = some ⟨[.int], none⟩ := by decide +kernel
abbrev y_3 : MethodName := ⟨"java/lang/Math", "max", "(II)I"⟩
theorem d3_0 : decode jdk_29_method_65_code 0 = .ok (.iload_n 0, 1) := by decide +kernel
theorem d3_1 : decode jdk_29_method_65_code 1 = .ok (.iload_n 1, 1) := by decide +kernel
theorem d3_2 : decode jdk_29_method_65_code 2 = .ok (.if_icmp .lt 7, 3) := by decide +kernel
theorem d3_5 : decode jdk_29_method_65_code 5 = .ok (.iload_n 0, 1) := by decide +kernel
theorem d3_6 : decode jdk_29_method_65_code 6 = .ok (.goto 4, 3) := by decide +kernel
theorem d3_9 : decode jdk_29_method_65_code 9 = .ok (.iload_n 1, 1) := by decide +kernel
theorem d3_10 : decode jdk_29_method_65_code 10 = .ok (.ireturn, 1) := by decide +kernel
theorem pl_3 : plainFor y_3 = true := Jvm.Free.JP.mathPlain rfl (by decide +kernel)
theorem pd_3 : parseMethodDescriptor "(II)I" = some ⟨[.int, .int], some .int⟩ := by decide +kernel
abbrev y_4 : MethodName := ⟨"com/example/thorough_paths/thoroughpaths/service/Nodes", "contains", "(I)Z"⟩
theorem d4_0 : decode prog_105_method_13_code 0 = .ok (.iconst 0, 1) := by decide +kernel
theorem d4_1 : decode prog_105_method_13_code 1 = .ok (.istore_n 2, 1) := by decide +kernel
theorem d4_2 : decode prog_105_method_13_code 2 = .ok (.iload_n 2, 1) := by decide +kernel
theorem d4_3 : decode prog_105_method_13_code 3 = .ok (.aload_n 0, 1) := by decide +kernel
theorem d4_4 : decode prog_105_method_13_code 4 = .ok (.getfield 12, 3) := by decide +kernel
theorem d4_7 : decode prog_105_method_13_code 7 = .ok (.if_icmp .ge 21, 3) := by decide +kernel
theorem d4_10 : decode prog_105_method_13_code 10 = .ok (.aload_n 0, 1) := by decide +kernel
theorem d4_11 : decode prog_105_method_13_code 11 = .ok (.getfield 22, 3) := by decide +kernel
theorem d4_14 : decode prog_105_method_13_code 14 = .ok (.iload_n 2, 1) := by decide +kernel
theorem d4_15 : decode prog_105_method_13_code 15 = .ok (.iaload, 1) := by decide +kernel
theorem d4_16 : decode prog_105_method_13_code 16 = .ok (.iload_n 1, 1) := by decide +kernel
theorem d4_17 : decode prog_105_method_13_code 17 = .ok (.if_icmp .ne 5, 3) := by decide +kernel
theorem d4_20 : decode prog_105_method_13_code 20 = .ok (.iconst 1, 1) := by decide +kernel
theorem d4_21 : decode prog_105_method_13_code 21 = .ok (.ireturn, 1) := by decide +kernel
theorem d4_22 : decode prog_105_method_13_code 22 = .ok (.iinc 2 1, 3) := by decide +kernel
theorem d4_25 : decode prog_105_method_13_code 25 = .ok (.goto (-23), 3) := by decide +kernel
theorem d4_28 : decode prog_105_method_13_code 28 = .ok (.iconst 0, 1) := by decide +kernel
theorem d4_29 : decode prog_105_method_13_code 29 = .ok (.ireturn, 1) := by decide +kernel
theorem pl_4 : plainFor y_4 = true := plainFor_of_name (by first | (simp [plainName, overriddenIn]; done) | decide +kernel)
theorem pd_4 : parseMethodDescriptor "(I)Z" = some ⟨[.int], some .boolean⟩ := by decide +kernel
abbrev y_5 : MethodName := ⟨"com/example/thorough_paths/thoroughpaths/service/Nodes", "add", "(I)V"⟩
theorem d5_0 : decode prog_105_method_5_code 0 = .ok (.aload_n 0, 1) := by decide +kernel
theorem d5_1 : decode prog_105_method_5_code 1 = .ok (.iconst 1, 1) := by decide +kernel
theorem d5_2 : decode prog_105_method_5_code 2 = .ok (.invokevirtual 33, 3) := by decide +kernel
theorem d5_5 : decode prog_105_method_5_code 5 = .ok (.aload_n 0, 1) := by decide +kernel
theorem d5_6 : decode prog_105_method_5_code 6 = .ok (.getfield 22, 3) := by decide +kernel
theorem d5_9 : decode prog_105_method_5_code 9 = .ok (.aload_n 0, 1) := by decide +kernel
theorem d5_10 : decode prog_105_method_5_code 10 = .ok (.dup, 1) := by decide +kernel
theorem d5_11 : decode prog_105_method_5_code 11 = .ok (.getfield 12, 3) := by decide +kernel
theorem d5_14 : decode prog_105_method_5_code 14 = .ok (.dup_x1, 1) := by decide +kernel
theorem d5_15 : decode prog_105_method_5_code 15 = .ok (.iconst 1, 1) := by decide +kernel
theorem d5_16 : decode prog_105_method_5_code 16 = .ok (.iadd, 1) := by decide +kernel
theorem d5_17 : decode prog_105_method_5_code 17 = .ok (.putfield 12, 3) := by decide +kernel
theorem d5_20 : decode prog_105_method_5_code 20 = .ok (.iload_n 1, 1) := by decide +kernel
theorem d5_21 : decode prog_105_method_5_code 21 = .ok (.iastore, 1) := by decide +kernel
theorem d5_22 : decode prog_105_method_5_code 22 = .ok (.return_, 1) := by decide +kernel
theorem pl_5 : plainFor y_5 = true := plainFor_of_name (by first | (simp [plainName, overriddenIn]; done) | decide +kernel)
theorem pd_5 : parseMethodDescriptor "(I)V" = some ⟨[.int], none⟩ := by decide +kernel
abbrev y_6 : MethodName := ⟨"com/example/thorough_paths/thoroughpaths/service/Nodes", "makeRoom", "(I)V"⟩
theorem d6_0 : decode prog_105_method_8_code 0 = .ok (.aload_n 0, 1) := by decide +kernel
theorem d6_1 : decode prog_105_method_8_code 1 = .ok (.getfield 12, 3) := by decide +kernel
theorem d6_4 : decode prog_105_method_8_code 4 = .ok (.iload_n 1, 1) := by decide +kernel
theorem d6_5 : decode prog_105_method_8_code 5 = .ok (.iadd, 1) := by decide +kernel
theorem d6_6 : decode prog_105_method_8_code 6 = .ok (.istore_n 2, 1) := by decide +kernel
theorem d6_7 : decode prog_105_method_8_code 7 = .ok (.iload_n 2, 1) := by decide +kernel
theorem d6_8 : decode prog_105_method_8_code 8 = .ok (.aload_n 0, 1) := by decide +kernel
theorem d6_9 : decode prog_105_method_8_code 9 = .ok (.getfield 22, 3) := by decide +kernel
theorem d6_12 : decode prog_105_method_8_code 12 = .ok (.arraylength, 1) := by decide +kernel
theorem d6_13 : decode prog_105_method_8_code 13 = .ok (.if_icmp .le 25, 3) := by decide +kernel
theorem d6_16 : decode prog_105_method_8_code 16 = .ok (.aload_n 0, 1) := by decide +kernel
theorem d6_17 : decode prog_105_method_8_code 17 = .ok (.aload_n 0, 1) := by decide +kernel
theorem d6_18 : decode prog_105_method_8_code 18 = .ok (.getfield 22, 3) := by decide +kernel
theorem d6_21 : decode prog_105_method_8_code 21 = .ok (.iload_n 2, 1) := by decide +kernel
theorem d6_22 : decode prog_105_method_8_code 22 = .ok (.iconst 2, 1) := by decide +kernel
theorem d6_23 : decode prog_105_method_8_code 23 = .ok (.aload_n 0, 1) := by decide +kernel
theorem d6_24 : decode prog_105_method_8_code 24 = .ok (.getfield 22, 3) := by decide +kernel
theorem d6_27 : decode prog_105_method_8_code 27 = .ok (.arraylength, 1) := by decide +kernel
theorem d6_28 : decode prog_105_method_8_code 28 = .ok (.imul, 1) := by decide +kernel
theorem d6_29 : decode prog_105_method_8_code 29 = .ok (.invokestatic 16, 3) := by decide +kernel
theorem d6_32 : decode prog_105_method_8_code 32 = .ok (.invokestatic 42, 3) := by decide +kernel
theorem d6_35 : decode prog_105_method_8_code 35 = .ok (.putfield 22, 3) := by decide +kernel
theorem d6_38 : decode prog_105_method_8_code 38 = .ok (.return_, 1) := by decide +kernel
theorem pl_6 : plainFor y_6 = true := plainFor_of_name (by first | (simp [plainName, overriddenIn]; done) | decide +kernel)
theorem pd_6 : parseMethodDescriptor "(I)V" = some ⟨[.int], none⟩ := by decide +kernel
abbrev y_7 : MethodName := ⟨"java/util/Arrays", "copyOf", "([II)[I"⟩
theorem d7_0 : decode jdk_65_method_123_code 0 = .ok (.iload_n 1, 1) := by decide +kernel
theorem d7_1 : decode jdk_65_method_123_code 1 = .ok (.aload_n 0, 1) := by decide +kernel
theorem d7_2 : decode jdk_65_method_123_code 2 = .ok (.arraylength, 1) := by decide +kernel
theorem d7_3 : decode jdk_65_method_123_code 3 = .ok (.if_icmp .ne 11, 3) := by decide +kernel
theorem d7_14 : decode jdk_65_method_123_code 14 = .ok (.iload_n 1, 1) := by decide +kernel
theorem d7_15 : decode jdk_65_method_123_code 15 = .ok (.newarray .int, 2) := by decide +kernel
theorem d7_17 : decode jdk_65_method_123_code 17 = .ok (.astore_n 2, 1) := by decide +kernel
theorem d7_18 : decode jdk_65_method_123_code 18 = .ok (.aload_n 0, 1) := by decide +kernel
theorem d7_19 : decode jdk_65_method_123_code 19 = .ok (.iconst 0, 1) := by decide +kernel
theorem d7_20 : decode jdk_65_method_123_code 20 = .ok (.aload_n 2, 1) := by decide +kernel
theorem d7_21 : decode jdk_65_method_123_code 21 = .ok (.iconst 0, 1) := by decide +kernel
theorem d7_22 : decode jdk_65_method_123_code 22 = .ok (.aload_n 0, 1) := by decide +kernel
theorem d7_23 : decode jdk_65_method_123_code 23 = .ok (.arraylength, 1) := by decide +kernel
theorem d7_24 : decode jdk_65_method_123_code 24 = .ok (.iload_n 1, 1) := by decide +kernel
theorem d7_25 : decode jdk_65_method_123_code 25 = .ok (.invokestatic 304, 3) := by decide +kernel
theorem d7_28 : decode jdk_65_method_123_code 28 = .ok (.invokestatic 150, 3) := by decide +kernel
theorem d7_31 : decode jdk_65_method_123_code 31 = .ok (.aload_n 2, 1) := by decide +kernel
theorem d7_32 : decode jdk_65_method_123_code 32 = .ok (.areturn, 1) := by decide +kernel
theorem pl_7 : plainFor y_7 = true := plainFor_of_name (by first | (simp [plainName, overriddenIn]; done) | decide +kernel)
theorem pd_7 : parseMethodDescriptor "([II)[I" = some ⟨[(.array .int), .int], some (.array .int)⟩ := by decide +kernel
abbrev y_8 : MethodName := ⟨"java/lang/Math", "min", "(II)I"⟩
theorem d8_0 : decode jdk_29_method_69_code 0 = .ok (.iload_n 0, 1) := by decide +kernel
theorem d8_1 : decode jdk_29_method_69_code 1 = .ok (.iload_n 1, 1) := by decide +kernel
theorem d8_2 : decode jdk_29_method_69_code 2 = .ok (.if_icmp .gt 7, 3) := by decide +kernel
theorem d8_5 : decode jdk_29_method_69_code 5 = .ok (.iload_n 0, 1) := by decide +kernel
theorem d8_6 : decode jdk_29_method_69_code 6 = .ok (.goto 4, 3) := by decide +kernel
theorem d8_9 : decode jdk_29_method_69_code 9 = .ok (.iload_n 1, 1) := by decide +kernel
theorem d8_10 : decode jdk_29_method_69_code 10 = .ok (.ireturn, 1) := by decide +kernel
theorem pl_8 : plainFor y_8 = true := Jvm.Free.JP.mathPlain rfl (by decide +kernel)
theorem pd_8 : parseMethodDescriptor "(II)I" = some ⟨[.int, .int], some .int⟩ := by decide +kernel
def LQ : Option Value → Hp → Prop := fun v _ => v = some (.int 1)
theorem own_addN (m n : Nat) : m.toInt32 + n.toInt32 = (m + n).toInt32 := (Int32.ofNat_add m n).symm
theorem own_subN {m n : Nat} (h : n ≤ m) (hm : m < 2147483648) : m.toInt32 - n.toInt32 = (m - n).toInt32 := by
  apply Int32.toInt_inj.mp
  have s := c_isub m.toInt32 n.toInt32
  have r := rng32 (m.toInt32 - n.toInt32)
  rw [(own_nat hm).2.2, (own_nat (by omega)).2.2] at s
  rw [(own_nat (m := m - n) (by omega)).2.2]
  omega
theorem own_modN {m n : Nat} (hm : m < 2147483648) (hn : n < 2147483648) : m.toInt32 % n.toInt32 = (m % n).toInt32 := by
  have : m % n ≤ m := Nat.mod_le m n
  apply Int32.toInt_inj.mp
  rw [Int32.toInt_mod, (own_nat hm).2.2, (own_nat hn).2.2, (own_nat (by omega)).2.2, Int.tmod_eq_emod_of_nonneg (by omega)]
  rfl
theorem own_inj {m n : Nat} (h : m < 2147483648) (h' : n < 2147483648) : m.toInt32 = n.toInt32 ↔ m = n := ⟨fun e => by have := congrArg Int32.toInt e; rw [(own_nat h).2.2, (own_nat h').2.2] at this; omega, fun e => by rw [e]⟩
theorem own_ne0 {n : Nat} (h : 0 < n) (h' : n < 2147483648) : n.toInt32 ≠ 0 := fun e => by
  have := (own_inj h' (by decide : 0 < 2147483648)).mp e
  omega
theorem own_cp (vs : List Int32) (n : Nat) (h : vs.length < n) : (List.replicate n (0 : Int32)).take 0 ++ (vs.drop 0).take vs.length ++ (List.replicate n (0 : Int32)).drop (0 + vs.length) = vs ++ List.replicate (n - vs.length) 0 := by
  simp
theorem own_tk {ns q : List Int32} {s : Nat} {x : Int32} (h : ns.take s = q) (hs : s < ns.length) : (ns.set s x).take (s + 1) = q ++ [x] := by
  rw [List.take_succ_eq_append_getElem (by simpa using hs), List.getElem_set_self, List.take_set_of_le (Nat.le_refl s), h]
theorem own_mem {ns : List Int32} {s m : Nat} {x : Int32} (hm : m < s) (hs : s ≤ ns.length) (e : ns.getD m 0 = x) : x ∈ ns.take s := by
  rw [List.mem_take_iff_getElem]
  refine ⟨m, by omega, ?_⟩
  rw [← e, List.getD_eq_getElem?_getD, List.getElem?_eq_getElem (by omega)]; rfl
theorem own_notmem {ns : List Int32} {s : Nat} {x : Int32} (hs : s ≤ ns.length) (h : ∀ j, j < s → ¬ ns.getD j 0 = x) : ¬ x ∈ ns.take s := by
  rw [List.mem_take_iff_getElem]
  rintro ⟨j, hj, e⟩
  refine h j (by omega) ?_
  rw [← e, List.getD_eq_getElem?_getD, List.getElem?_eq_getElem (by omega)]; rfl
set_option maxRecDepth 65536 in
set_option maxHeartbeats 40000000 in
theorem met_max {Z : State} (HT : Tb Z) {F : Hp} (a b : Int32)  : Met Z y_3 jdk_29_method_65_code 2 (some .int) ({ frames := 0, cells := 0, slots := 0, locals := 0 } : Room) [(.int a), (.int b)] (F) (fun v M' => ∃ r : Int32, r.toInt = max a.toInt b.toInt ∧ v = some (.int r) ∧ M' = F) := by
  refine Met.of HT pl_3 (Ls := #[.val (.int a), .val (.int b)]) (fun m => by first | (simp [entryFrame, mkF, argsToLocals, Value.category]; done) | rfl) (fun k H => ?_)
  refine s_iloadn H d3_0 rfl (pc' := 1) rfl ?_
  refine s_iloadn H d3_1 rfl (pc' := 2) rfl ?_
  refine s_icmp H d3_2 (py := 9) (pc' := 5) q_lt (by decide) rfl (fun c2 => ?_) (fun c2 => ?_)
  · refine s_iloadn H d3_9 rfl (pc' := 10) rfl ?_
    exact s_iret H d3_10 rfl (Or.inl rfl) (by decide) (by decide) (⟨b, by rw [Int32.lt_iff_toInt_lt] at c2; omega, rfl, rfl⟩)
  · refine s_iloadn H d3_5 rfl (pc' := 6) rfl ?_
    refine s_goto H d3_6 (pc' := 10) (by decide) ?_
    exact s_iret H d3_10 rfl (Or.inl rfl) (by decide) (by decide) (⟨a, by rw [Int32.lt_iff_toInt_lt] at c2; omega, rfl, rfl⟩)
set_option maxRecDepth 65536 in
set_option maxHeartbeats 40000000 in
theorem met_min {Z : State} (HT : Tb Z) {F : Hp} (a b : Int32)  : Met Z y_8 jdk_29_method_69_code 2 (some .int) ({ frames := 0, cells := 0, slots := 0, locals := 0 } : Room) [(.int a), (.int b)] (F) (fun v M' => ∃ r : Int32, r.toInt = min a.toInt b.toInt ∧ v = some (.int r) ∧ M' = F) := by
  refine Met.of HT pl_8 (Ls := #[.val (.int a), .val (.int b)]) (fun m => by first | (simp [entryFrame, mkF, argsToLocals, Value.category]; done) | rfl) (fun k H => ?_)
  refine s_iloadn H d8_0 rfl (pc' := 1) rfl ?_
  refine s_iloadn H d8_1 rfl (pc' := 2) rfl ?_
  refine s_icmp H d8_2 (py := 9) (pc' := 5) q_gt (by decide) rfl (fun c2 => ?_) (fun c2 => ?_)
  · refine s_iloadn H d8_9 rfl (pc' := 10) rfl ?_
    exact s_iret H d8_10 rfl (Or.inl rfl) (by decide) (by decide) (⟨b, by rw [Int32.lt_iff_toInt_lt] at c2; omega, rfl, rfl⟩)
  · refine s_iloadn H d8_5 rfl (pc' := 6) rfl ?_
    refine s_goto H d8_6 (pc' := 10) (by decide) ?_
    exact s_iret H d8_10 rfl (Or.inl rfl) (by decide) (by decide) (⟨a, by rw [Int32.lt_iff_toInt_lt] at c2; omega, rfl, rfl⟩)
set_option maxRecDepth 65536 in
set_option maxHeartbeats 40000000 in
theorem met_ni {Z : State} (HT : Tb Z) {F : Hp} (nd : Addr) (c : Int32) (n : Nat) (hn : (n : Int) = max c.toInt 1) (hc : n ≤ 4) : Met Z y_1 prog_105_method_2_code 2 none ({ frames := 1, cells := 1, slots := 4, locals := 14 } : Room) [(.ref nd), (.int c)] ((nd, Obj Z "com/example/thorough_paths/thoroughpaths/service/Nodes" [("com/example/thorough_paths/thoroughpaths/service/Nodes", "size", "I", (.int (0 : Int32))), ("com/example/thorough_paths/thoroughpaths/service/Nodes", "numbers", "[I", .null)]) :: F) (fun v M' => ∃ na : Addr, v = none ∧ M' = ((na, ArI Z .int (List.replicate n 0)) :: (nd, Obj Z "com/example/thorough_paths/thoroughpaths/service/Nodes" [("com/example/thorough_paths/thoroughpaths/service/Nodes", "size", "I", (.int (0 : Nat).toInt32)), ("com/example/thorough_paths/thoroughpaths/service/Nodes", "numbers", "[I", (.ref na))]) :: F)) := by
  refine Met.of HT pl_1 (Ls := #[.val (.ref nd), .val (.int c)]) (fun m => by first | (simp [entryFrame, mkF, argsToLocals, Value.category]; done) | rfl) (fun k H => ?_)
  refine s_aloadn H d1_0 rfl rfl (pc' := 1) rfl ?_
  refine s_objinit H d1_1 (mem (i := 6) rfl) (mem (i := 7) rfl) (mem (i := 8) rfl) rfl (by decide) (Nat.le_of_ble_eq_true rfl) (pc' := 4) rfl ?_
  refine s_aloadn H d1_4 rfl rfl (pc' := 5) rfl ?_
  refine s_iconst H d1_5 (z := (0 : Int32)) (by decide) (pc' := 6) rfl ?_
  refine s_putf H d1_6 (mem (i := 9) rfl) (Or.inl (mem (i := 10) rfl)) (mem (i := 1) rfl) (ty := .int) (by decide) rfl rfl (i := 0) (j := 0) rfl rfl (pc' := 9) rfl ?_
  show Go Z k 0 0 ((nd, Obj Z "com/example/thorough_paths/thoroughpaths/service/Nodes" [("com/example/thorough_paths/thoroughpaths/service/Nodes", "size", "I", (.int (0 : Int32))), ("com/example/thorough_paths/thoroughpaths/service/Nodes", "numbers", "[I", .null)]) :: F) 9 #[.val (.ref nd), .val (.int c)] []
  refine s_aloadn H d1_9 rfl rfl (pc' := 10) rfl ?_
  refine s_iloadn H d1_10 rfl (pc' := 11) rfl ?_
  refine s_iconst H d1_11 (z := (1 : Int32)) (by decide) (pc' := 12) rfl ?_
  refine s_static H (met_max H.tb c (1 : Int32)) d1_12 (mem (i := 11) rfl) (mem (i := 12) rfl) (mem (i := 13) rfl) (mem (i := 14) rfl) (by decide) pd_3 rfl (rest := [(.ref nd)]) rfl rfl (by decide) (Nat.le_of_ble_eq_true rfl) (cn' := 0) (sn' := 0) rfl rfl (by decide) (by decide) (pc' := 15) rfl (fun _ _ hq => ?_)
  obtain ⟨r1, hr1, rfl, rfl⟩ := hq
  show Go Z k 0 0 ((nd, Obj Z "com/example/thorough_paths/thoroughpaths/service/Nodes" [("com/example/thorough_paths/thoroughpaths/service/Nodes", "size", "I", (.int (0 : Int32))), ("com/example/thorough_paths/thoroughpaths/service/Nodes", "numbers", "[I", .null)]) :: F) 15 #[.val (.ref nd), .val (.int c)] [(.int r1), (.ref nd)]
  have er1 : r1 = n.toInt32 := by apply Int32.toInt_inj.mp; rw [(own_nat (by omega)).2.2, hr1, hn]; rfl
  rw [er1]
  refine s_newarr_int H d1_15 (mem (i := 15) rfl) (own_nat (by omega)).2.1 (cap := 4) (by rw [(own_nat (by omega)).1]; omega) (by decide) (cn' := 1) (sn' := 4) rfl rfl (by decide) (by decide) (pc' := 17) rfl (fun na => ?_)
  rw [(own_nat (by omega)).1]
  show Go Z k 1 4 ((na, ArI Z .int (List.replicate n 0)) :: (nd, Obj Z "com/example/thorough_paths/thoroughpaths/service/Nodes" [("com/example/thorough_paths/thoroughpaths/service/Nodes", "size", "I", (.int (0 : Int32))), ("com/example/thorough_paths/thoroughpaths/service/Nodes", "numbers", "[I", .null)]) :: F) 17 #[.val (.ref nd), .val (.int c)] [(.ref na), (.ref nd)]
  refine s_putf H d1_17 (mem (i := 16) rfl) (Or.inl (mem (i := 17) rfl)) (mem (i := 1) rfl) (ty := (.array .int)) (by decide) rfl rfl (i := 1) (j := 1) rfl rfl (pc' := 20) rfl ?_
  show Go Z k 1 4 ((na, ArI Z .int (List.replicate n 0)) :: (nd, Obj Z "com/example/thorough_paths/thoroughpaths/service/Nodes" [("com/example/thorough_paths/thoroughpaths/service/Nodes", "size", "I", (.int (0 : Int32))), ("com/example/thorough_paths/thoroughpaths/service/Nodes", "numbers", "[I", (.ref na))]) :: F) 20 #[.val (.ref nd), .val (.int c)] []
  exact s_vret H d1_20 (by decide) (by decide) (⟨na, rfl, rfl⟩)
set_option maxRecDepth 65536 in
set_option maxHeartbeats 40000000 in
theorem met_cp {Z : State} (HT : Tb Z) {F : Hp} (a : Addr) (vs : List Int32) (n : Nat) (hl : vs.length < n) (hn : n ≤ 4) : Met Z y_7 jdk_65_method_123_code 3 (some (.array .int)) ({ frames := 1, cells := 1, slots := 4, locals := 40 } : Room) [(.ref a), (.int n.toInt32)] ((a, ArI Z .int vs) :: F) (fun v M' => ∃ r : Addr, v = some (.ref r) ∧ M' = ((r, ArI Z .int (vs ++ List.replicate (n - vs.length) 0)) :: (a, ArI Z .int vs) :: F)) := by
  refine Met.of HT pl_7 (Ls := #[.val (.ref a), .val (.int n.toInt32), .unset]) (fun m => by first | (simp [entryFrame, mkF, argsToLocals, Value.category]; done) | rfl) (fun k H => ?_)
  refine s_iloadn H d7_0 rfl (pc' := 1) rfl ?_
  refine s_aloadn H d7_1 rfl rfl (pc' := 2) rfl ?_
  refine s_alenI H d7_2 (i := 0) rfl (z := vs.length.toInt32) rfl (pc' := 3) rfl ?_
  refine s_icmp H d7_3 (py := 14) (pc' := 6) q_ne (by decide) rfl (fun c3 => ?_) (fun c3 => ?_)
  · refine s_iloadn H d7_14 rfl (pc' := 15) rfl ?_
    refine s_newarr_int H d7_15 (mem (i := 15) rfl) (own_nat (by omega)).2.1 (cap := 4) (by rw [(own_nat (by omega)).1]; exact hn) (by decide) (cn' := 1) (sn' := 4) rfl rfl (by decide) (by decide) (pc' := 17) rfl (fun r => ?_)
    rw [(own_nat (by omega)).1]
    show Go Z k 1 4 ((r, ArI Z .int (List.replicate n (0 : Int32))) :: (a, ArI Z .int vs) :: F) 17 #[.val (.ref a), .val (.int n.toInt32), .unset] [(.ref r)]
    refine s_astoren H d7_17 (L' := #[.val (.ref a), .val (.int n.toInt32), .val (.ref r)]) rfl rfl (pc' := 18) rfl ?_
    refine s_aloadn H d7_18 rfl rfl (pc' := 19) rfl ?_
    refine s_iconst H d7_19 (z := (0 : Int32)) (by decide) (pc' := 20) rfl ?_
    refine s_aloadn H d7_20 rfl rfl (pc' := 21) rfl ?_
    refine s_iconst H d7_21 (z := (0 : Int32)) (by decide) (pc' := 22) rfl ?_
    refine s_aloadn H d7_22 rfl rfl (pc' := 23) rfl ?_
    refine s_alenI H d7_23 (i := 1) rfl (z := vs.length.toInt32) rfl (pc' := 24) rfl ?_
    refine s_iloadn H d7_24 rfl (pc' := 25) rfl ?_
    refine s_static H (met_min H.tb vs.length.toInt32 n.toInt32) d7_25 (mem (i := 36) rfl) (mem (i := 37) rfl) (mem (i := 13) rfl) (mem (i := 38) rfl) (by decide) pd_8 rfl (rest := [(.int (0 : Int32)), (.ref r), (.int (0 : Int32)), (.ref a)]) rfl rfl (by decide) (Nat.le_of_ble_eq_true rfl) (cn' := 1) (sn' := 4) rfl rfl (by decide) (by decide) (pc' := 28) rfl (fun _ _ hq => ?_)
    obtain ⟨r1, hr1, rfl, rfl⟩ := hq
    show Go Z k 1 4 ((r, ArI Z .int (List.replicate n (0 : Int32))) :: (a, ArI Z .int vs) :: F) 28 #[.val (.ref a), .val (.int n.toInt32), .val (.ref r)] [(.int r1), (.int (0 : Int32)), (.ref r), (.int (0 : Int32)), (.ref a)]
    have er1 : r1 = vs.length.toInt32 := by
      apply Int32.toInt_inj.mp
      rw [(own_nat (by omega)).2.2] at hr1 ⊢
      rw [hr1, (own_nat (by omega)).2.2]; omega
    rw [er1]
    refine s_acopy_I H (0) (0) (vs.length) d7_28 (mem (i := 39) rfl) (mem (i := 42) rfl) (mem (i := 40) rfl) (mem (i := 41) rfl) (i := 1) (j := 0) rfl rfl rfl rfl rfl rfl (by omega) (by simp; omega) rfl (by decide) (Nat.le_of_ble_eq_true rfl) (pc' := 31) rfl ?_
    rw [own_cp vs n hl]
    show Go Z k 1 4 ((r, ArI Z .int (vs ++ List.replicate (n - vs.length) 0)) :: (a, ArI Z .int vs) :: F) 31 #[.val (.ref a), .val (.int n.toInt32), .val (.ref r)] []
    refine s_aloadn H d7_31 rfl rfl (pc' := 32) rfl ?_
    exact s_aret H d7_32 rfl rfl (by decide) (by decide) (⟨r, rfl, rfl⟩)
  · exact absurd ((own_inj (by omega) (by omega)).mp (Classical.not_not.mp c3)) (by omega)
set_option maxRecDepth 65536 in
set_option maxHeartbeats 40000000 in
theorem met_mr {Z : State} (HT : Tb Z) {F : Hp} (nd na : Addr) (ns : List Int32) (s : Nat) (hs : s ≤ ns.length) (h2 : s ≤ 2) (hl : ns.length ≤ 100) : Met Z y_6 prog_105_method_8_code 3 none ({ frames := 2, cells := 1, slots := 4, locals := 55 } : Room) [(.ref nd), (.int (1 : Int32))] ((na, ArI Z .int ns) :: (nd, Obj Z "com/example/thorough_paths/thoroughpaths/service/Nodes" [("com/example/thorough_paths/thoroughpaths/service/Nodes", "size", "I", (.int s.toInt32)), ("com/example/thorough_paths/thoroughpaths/service/Nodes", "numbers", "[I", (.ref na))]) :: F) (fun v M' => ∃ (na' : Addr) (ns' : List Int32) (F' : Hp), s < ns'.length ∧ ns'.length ≤ 100 ∧ ns'.take s = ns.take s ∧ v = none ∧ M' = ((na', ArI Z .int ns') :: (nd, Obj Z "com/example/thorough_paths/thoroughpaths/service/Nodes" [("com/example/thorough_paths/thoroughpaths/service/Nodes", "size", "I", (.int s.toInt32)), ("com/example/thorough_paths/thoroughpaths/service/Nodes", "numbers", "[I", (.ref na'))]) :: F')) := by
  refine Met.of HT pl_6 (Ls := #[.val (.ref nd), .val (.int (1 : Int32)), .unset]) (fun m => by first | (simp [entryFrame, mkF, argsToLocals, Value.category]; done) | rfl) (fun k H => ?_)
  refine s_aloadn H d6_0 rfl rfl (pc' := 1) rfl ?_
  refine s_getf H d6_1 (mem (i := 9) rfl) (i := 1) (j := 0) rfl rfl (pc' := 4) rfl ?_
  refine s_iloadn H d6_4 rfl (pc' := 5) rfl ?_
  refine s_iadd H d6_5 (pc' := 6) rfl ?_
  rw [show s.toInt32 + 1 = (s + 1).toInt32 from own_addN s 1]
  refine s_istoren H d6_6 (L' := fun z => #[.val (.ref nd), .val (.int (1 : Int32)), .val (.int z)]) (fun _ => rfl) (pc' := 7) rfl (fun z0 hz => ?_)
  subst z0
  refine s_iloadn H d6_7 rfl (pc' := 8) rfl ?_
  refine s_aloadn H d6_8 rfl rfl (pc' := 9) rfl ?_
  refine s_getf H d6_9 (mem (i := 16) rfl) (i := 1) (j := 1) rfl rfl (pc' := 12) rfl ?_
  refine s_alenI H d6_12 (i := 0) rfl (z := ns.length.toInt32) rfl (pc' := 13) rfl ?_
  refine s_icmp H d6_13 (py := 38) (pc' := 16) q_le (by decide) rfl (fun c13 => ?_) (fun c13 => ?_)
  · rw [own_le (by omega) (by omega)] at c13
    exact s_vret H d6_38 (by decide) (by decide) (⟨na, ns, F, by omega, hl, rfl, rfl, rfl⟩)
  · rw [own_le (by omega) (by omega)] at c13
    refine s_aloadn H d6_16 rfl rfl (pc' := 17) rfl ?_
    refine s_aloadn H d6_17 rfl rfl (pc' := 18) rfl ?_
    refine s_getf H d6_18 (mem (i := 16) rfl) (i := 1) (j := 1) rfl rfl (pc' := 21) rfl ?_
    refine s_iloadn H d6_21 rfl (pc' := 22) rfl ?_
    refine s_iconst H d6_22 (z := (2 : Int32)) (by decide) (pc' := 23) rfl ?_
    refine s_aloadn H d6_23 rfl rfl (pc' := 24) rfl ?_
    refine s_getf H d6_24 (mem (i := 16) rfl) (i := 1) (j := 1) rfl rfl (pc' := 27) rfl ?_
    refine s_alenI H d6_27 (i := 0) rfl (z := ns.length.toInt32) rfl (pc' := 28) rfl ?_
    refine s_imul H d6_28 (pc' := 29) rfl ?_
    refine s_static H (met_max H.tb (s + 1).toInt32 ((2 : Int32) * ns.length.toInt32)) d6_29 (mem (i := 11) rfl) (mem (i := 12) rfl) (mem (i := 13) rfl) (mem (i := 14) rfl) (by decide) pd_3 rfl (rest := [(.ref na), (.ref nd)]) rfl rfl (by decide) (Nat.le_of_ble_eq_true rfl) (cn' := 0) (sn' := 0) rfl rfl (by decide) (by decide) (pc' := 32) rfl (fun _ _ hq => ?_)
    obtain ⟨r1, hr1, rfl, rfl⟩ := hq
    show Go Z k 0 0 ((na, ArI Z .int ns) :: (nd, Obj Z "com/example/thorough_paths/thoroughpaths/service/Nodes" [("com/example/thorough_paths/thoroughpaths/service/Nodes", "size", "I", (.int s.toInt32)), ("com/example/thorough_paths/thoroughpaths/service/Nodes", "numbers", "[I", (.ref na))]) :: F) 32 #[.val (.ref nd), .val (.int (1 : Int32)), .val (.int (s + 1).toInt32)] [(.int r1), (.ref na), (.ref nd)]
    obtain ⟨N, hN⟩ : ∃ N : Nat, N = max (s + 1) (2 * ns.length) := ⟨_, rfl⟩
    have er1 : r1 = N.toInt32 := by
      apply Int32.toInt_inj.mp
      have m2 := c_imul 2 ns.length.toInt32
      have r2 := rng32 (2 * ns.length.toInt32)
      rw [(own_nat (by omega)).2.2, show (2 : Int32).toInt = 2 from by decide] at m2
      rw [hr1, (own_nat (by omega)).2.2, (own_nat (by omega)).2.2]
      omega
    rw [er1]
    show Go Z k 0 0 ((na, ArI Z .int ns) :: (nd, Obj Z "com/example/thorough_paths/thoroughpaths/service/Nodes" [("com/example/thorough_paths/thoroughpaths/service/Nodes", "size", "I", (.int s.toInt32)), ("com/example/thorough_paths/thoroughpaths/service/Nodes", "numbers", "[I", (.ref na))]) :: F) 32 #[.val (.ref nd), .val (.int (1 : Int32)), .val (.int (s + 1).toInt32)] [(.int N.toInt32), (.ref na), (.ref nd)]
    refine s_static H (met_cp H.tb na ns N (by omega) (by omega)) d6_32 (mem (i := 32) rfl) (mem (i := 33) rfl) (mem (i := 34) rfl) (mem (i := 35) rfl) (by decide) pd_7 rfl (rest := [(.ref nd)]) rfl rfl (by decide) (Nat.le_of_ble_eq_true rfl) (cn' := 1) (sn' := 4) rfl rfl (by decide) (by decide) (pc' := 35) rfl (fun _ _ hq => ?_)
    obtain ⟨nr, rfl, rfl⟩ := hq
    show Go Z k 1 4 ((nr, ArI Z .int (ns ++ List.replicate (N - ns.length) 0)) :: (na, ArI Z .int ns) :: (nd, Obj Z "com/example/thorough_paths/thoroughpaths/service/Nodes" [("com/example/thorough_paths/thoroughpaths/service/Nodes", "size", "I", (.int s.toInt32)), ("com/example/thorough_paths/thoroughpaths/service/Nodes", "numbers", "[I", (.ref na))]) :: F) 35 #[.val (.ref nd), .val (.int (1 : Int32)), .val (.int (s + 1).toInt32)] [(.ref nr), (.ref nd)]
    refine s_putf H d6_35 (mem (i := 16) rfl) (Or.inl (mem (i := 17) rfl)) (mem (i := 1) rfl) (ty := (.array .int)) (by decide) rfl rfl (i := 2) (j := 1) rfl rfl (pc' := 38) rfl ?_
    show Go Z k 1 4 ((nr, ArI Z .int (ns ++ List.replicate (N - ns.length) 0)) :: (na, ArI Z .int ns) :: (nd, Obj Z "com/example/thorough_paths/thoroughpaths/service/Nodes" [("com/example/thorough_paths/thoroughpaths/service/Nodes", "size", "I", (.int s.toInt32)), ("com/example/thorough_paths/thoroughpaths/service/Nodes", "numbers", "[I", (.ref nr))]) :: F) 38 #[.val (.ref nd), .val (.int (1 : Int32)), .val (.int (s + 1).toInt32)] []
    refine Go.perm (List.Perm.cons _ (List.Perm.swap _ _ _)) ?_
    exact s_vret H d6_38 (by decide) (by decide) (⟨nr, _, _, by simp; omega, by simp; omega, by rw [List.take_append_of_le_length (by omega)], rfl, rfl⟩)
set_option maxRecDepth 65536 in
set_option maxHeartbeats 40000000 in
theorem met_na {Z : State} (HT : Tb Z) {F : Hp} (nd na : Addr) (ns q : List Int32) (s : Nat) (x : Int32) (hs : s ≤ ns.length) (h2 : s ≤ 2) (hl : ns.length ≤ 100) (hq : ns.take s = q) : Met Z y_5 prog_105_method_5_code 2 none ({ frames := 3, cells := 1, slots := 4, locals := 69 } : Room) [(.ref nd), (.int x)] ((na, ArI Z .int ns) :: (nd, Obj Z "com/example/thorough_paths/thoroughpaths/service/Nodes" [("com/example/thorough_paths/thoroughpaths/service/Nodes", "size", "I", (.int s.toInt32)), ("com/example/thorough_paths/thoroughpaths/service/Nodes", "numbers", "[I", (.ref na))]) :: F) (fun v M' => ∃ (na' : Addr) (ns' : List Int32) (F' : Hp), s + 1 ≤ ns'.length ∧ ns'.length ≤ 100 ∧ ns'.take (s + 1) = q ++ [x] ∧ v = none ∧ M' = ((na', ArI Z .int ns') :: (nd, Obj Z "com/example/thorough_paths/thoroughpaths/service/Nodes" [("com/example/thorough_paths/thoroughpaths/service/Nodes", "size", "I", (.int (s + 1).toInt32)), ("com/example/thorough_paths/thoroughpaths/service/Nodes", "numbers", "[I", (.ref na'))]) :: F')) := by
  refine Met.of HT pl_5 (Ls := #[.val (.ref nd), .val (.int x)]) (fun m => by first | (simp [entryFrame, mkF, argsToLocals, Value.category]; done) | rfl) (fun k H => ?_)
  refine s_aloadn H d5_0 rfl rfl (pc' := 1) rfl ?_
  refine s_iconst H d5_1 (z := (1 : Int32)) (by decide) (pc' := 2) rfl ?_
  refine s_priv H (met_mr H.tb nd na ns s hs h2 hl) d5_2 (i := 1) rfl (mem (i := 28) rfl) (mem (i := 30) rfl) (mem (i := 21) rfl) rfl (mem (i := 29) rfl) (mem (i := 2) rfl) (mem (i := 31) rfl) (by decide) pd_6 rfl (rest := []) rfl rfl (by decide) (Nat.le_of_ble_eq_true rfl) (cn' := 1) (sn' := 4) rfl rfl (by decide) (by decide) (pc' := 5) rfl (fun _ _ hq => ?_)
  obtain ⟨na', ns', F', k1, k2, k3, rfl, rfl⟩ := hq
  show Go Z k 1 4 ((na', ArI Z .int ns') :: (nd, Obj Z "com/example/thorough_paths/thoroughpaths/service/Nodes" [("com/example/thorough_paths/thoroughpaths/service/Nodes", "size", "I", (.int s.toInt32)), ("com/example/thorough_paths/thoroughpaths/service/Nodes", "numbers", "[I", (.ref na'))]) :: F') 5 #[.val (.ref nd), .val (.int x)] []
  refine s_aloadn H d5_5 rfl rfl (pc' := 6) rfl ?_
  refine s_getf H d5_6 (mem (i := 16) rfl) (i := 1) (j := 1) rfl rfl (pc' := 9) rfl ?_
  refine s_aloadn H d5_9 rfl rfl (pc' := 10) rfl ?_
  refine s_dup H d5_10 rfl (pc' := 11) rfl ?_
  refine s_getf H d5_11 (mem (i := 9) rfl) (i := 1) (j := 0) rfl rfl (pc' := 14) rfl ?_
  refine s_dupx1 H d5_14 rfl rfl (pc' := 15) rfl ?_
  refine s_iconst H d5_15 (z := (1 : Int32)) (by decide) (pc' := 16) rfl ?_
  refine s_iadd H d5_16 (pc' := 17) rfl ?_
  rw [show s.toInt32 + 1 = (s + 1).toInt32 from own_addN s 1]
  refine s_putf H d5_17 (mem (i := 9) rfl) (Or.inl (mem (i := 10) rfl)) (mem (i := 1) rfl) (ty := .int) (by decide) rfl rfl (i := 1) (j := 0) rfl rfl (pc' := 20) rfl ?_
  show Go Z k 1 4 ((na', ArI Z .int ns') :: (nd, Obj Z "com/example/thorough_paths/thoroughpaths/service/Nodes" [("com/example/thorough_paths/thoroughpaths/service/Nodes", "size", "I", (.int (s + 1).toInt32)), ("com/example/thorough_paths/thoroughpaths/service/Nodes", "numbers", "[I", (.ref na'))]) :: F') 20 #[.val (.ref nd), .val (.int x)] [(.int s.toInt32), (.ref na')]
  refine s_iloadn H d5_20 rfl (pc' := 21) rfl ?_
  refine s_iastore H d5_21 (i := 0) rfl (own_nat (by omega)).2.1 (jn := s) (own_nat (by omega)).1 k1 (pc' := 22) rfl ?_
  show Go Z k 1 4 ((na', ArI Z .int (ns'.set s x)) :: (nd, Obj Z "com/example/thorough_paths/thoroughpaths/service/Nodes" [("com/example/thorough_paths/thoroughpaths/service/Nodes", "size", "I", (.int (s + 1).toInt32)), ("com/example/thorough_paths/thoroughpaths/service/Nodes", "numbers", "[I", (.ref na'))]) :: F') 22 #[.val (.ref nd), .val (.int x)] []
  exact s_vret H d5_22 (by decide) (by decide) (⟨na', _, F', by simp; omega, by simpa using k2, own_tk (k3.trans hq) k1, rfl, rfl⟩)
set_option maxRecDepth 65536 in
set_option maxHeartbeats 40000000 in
theorem c_loop {Z : State} {k : Cx} {F : Hp} {nd na : Addr} {ns : List Int32} {s : Nat} {x : Int32} (d m : Nat) (H : Ok Z k ({ frames := 0, cells := 0, slots := 0, locals := 0 } : Room) (fun v M' => v = some (.int (if x ∈ ns.take s then 1 else 0)) ∧ M' = ((na, ArI Z .int ns) :: (nd, Obj Z "com/example/thorough_paths/thoroughpaths/service/Nodes" [("com/example/thorough_paths/thoroughpaths/service/Nodes", "size", "I", (.int s.toInt32)), ("com/example/thorough_paths/thoroughpaths/service/Nodes", "numbers", "[I", (.ref na))]) :: F)) y_4 prog_105_method_13_code 3 (some .boolean)) (hs : s ≤ ns.length) (hl : ns.length ≤ 100) (hm : m + d = s) (hx : ∀ j, j < m → ¬ ns.getD j 0 = x) : Go Z k 0 0 ((na, ArI Z .int ns) :: (nd, Obj Z "com/example/thorough_paths/thoroughpaths/service/Nodes" [("com/example/thorough_paths/thoroughpaths/service/Nodes", "size", "I", (.int s.toInt32)), ("com/example/thorough_paths/thoroughpaths/service/Nodes", "numbers", "[I", (.ref na))]) :: F) 2 #[.val (.ref nd), .val (.int x), .val (.int m.toInt32)] [] := by
  induction d generalizing m with
  | zero =>
    refine s_iloadn H d4_2 rfl (pc' := 3) rfl ?_
    refine s_aloadn H d4_3 rfl rfl (pc' := 4) rfl ?_
    refine s_getf H d4_4 (mem (i := 9) rfl) (i := 1) (j := 0) rfl rfl (pc' := 7) rfl ?_
    refine s_icmp H d4_7 (py := 28) (pc' := 10) q_ge (by decide) rfl (fun c7 => ?_) (fun c7 => ?_)
    · refine s_iconst H d4_28 (z := (0 : Int32)) (by decide) (pc' := 29) rfl ?_
      exact s_iret H d4_29 rfl (by simp) (by decide) (by decide) (⟨by rw [if_neg (own_notmem hs (by rw [← hm]; exact hx))], rfl⟩)
    · exact absurd ((own_le (by omega) (by omega)).mpr (by omega)) c7
  | succ d ih =>
    refine s_iloadn H d4_2 rfl (pc' := 3) rfl ?_
    refine s_aloadn H d4_3 rfl rfl (pc' := 4) rfl ?_
    refine s_getf H d4_4 (mem (i := 9) rfl) (i := 1) (j := 0) rfl rfl (pc' := 7) rfl ?_
    refine s_icmp H d4_7 (py := 28) (pc' := 10) q_ge (by decide) rfl (fun c7 => ?_) (fun c7 => ?_)
    · exact absurd ((own_le (by omega) (by omega)).mp c7) (by omega)
    · refine s_aloadn H d4_10 rfl rfl (pc' := 11) rfl ?_
      refine s_getf H d4_11 (mem (i := 16) rfl) (i := 1) (j := 1) rfl rfl (pc' := 14) rfl ?_
      refine s_iloadn H d4_14 rfl (pc' := 15) rfl ?_
      refine s_iaload H d4_15 (i := 0) rfl (x := (ns.getD m 0)) (own_nat (by omega)).2.1 (jn := m) (own_nat (by omega)).1 (by rw [List.getD_eq_getElem?_getD, List.getElem?_eq_getElem (by omega)]; rfl) (pc' := 16) rfl ?_
      refine s_iloadn H d4_16 rfl (pc' := 17) rfl ?_
      refine s_icmp H d4_17 (py := 22) (pc' := 20) q_ne (by decide) rfl (fun c17 => ?_) (fun c17 => ?_)
      · refine s_iinc H d4_22 rfl (u := (1 : Int32)) (by decide) (L' := fun z => #[.val (.ref nd), .val (.int x), .val (.int z)]) (fun _ => rfl) (pc' := 25) rfl (fun i h_i => ?_)
        refine s_goto H d4_25 (pc' := 2) (by decide) ?_
        rw [h_i, own_succ]
        refine ih (m + 1) (by omega) (fun j hj => ?_)
        rcases Nat.lt_or_ge j m with lt | ge
        · exact hx j lt
        · have : j = m := by omega
          subst this; exact c17
      · refine s_iconst H d4_20 (z := (1 : Int32)) (by decide) (pc' := 21) rfl ?_
        exact s_iret H d4_21 rfl (by simp) (by decide) (by decide) (⟨by rw [if_pos (own_mem (by omega) hs (Classical.not_not.mp c17))], rfl⟩)
set_option maxRecDepth 65536 in
set_option maxHeartbeats 40000000 in
theorem met_nc {Z : State} (HT : Tb Z) {F : Hp} (nd na : Addr) (ns : List Int32) (s : Nat) (x : Int32) (hs : s ≤ ns.length) (hl : ns.length ≤ 100) : Met Z y_4 prog_105_method_13_code 3 (some .boolean) ({ frames := 0, cells := 0, slots := 0, locals := 0 } : Room) [(.ref nd), (.int x)] ((na, ArI Z .int ns) :: (nd, Obj Z "com/example/thorough_paths/thoroughpaths/service/Nodes" [("com/example/thorough_paths/thoroughpaths/service/Nodes", "size", "I", (.int s.toInt32)), ("com/example/thorough_paths/thoroughpaths/service/Nodes", "numbers", "[I", (.ref na))]) :: F) (fun v M' => v = some (.int (if x ∈ ns.take s then 1 else 0)) ∧ M' = ((na, ArI Z .int ns) :: (nd, Obj Z "com/example/thorough_paths/thoroughpaths/service/Nodes" [("com/example/thorough_paths/thoroughpaths/service/Nodes", "size", "I", (.int s.toInt32)), ("com/example/thorough_paths/thoroughpaths/service/Nodes", "numbers", "[I", (.ref na))]) :: F)) := by
  refine Met.of HT pl_4 (Ls := #[.val (.ref nd), .val (.int x), .unset]) (fun m => by first | (simp [entryFrame, mkF, argsToLocals, Value.category]; done) | rfl) (fun k H => ?_)
  refine s_iconst H d4_0 (z := (0 : Int32)) (by decide) (pc' := 1) rfl ?_
  refine s_istoren H d4_1 (L' := fun z => #[.val (.ref nd), .val (.int x), .val (.int z)]) (fun _ => rfl) (pc' := 2) rfl (fun z0 hz => ?_)
  subst z0
  exact c_loop s 0 H hs hl (by omega) (fun j hj => absurd hj (Nat.not_lt_zero j))
set_option maxRecDepth 65536 in
set_option maxHeartbeats 40000000 in
theorem s22_0_0 {Z : State} {k : Cx} {i0 i1 i2 i3 i4 cp : Int32} (N0 : Nat) (H : Ok Z k room_1 (LQ) x code maxLocals ret) (hN : (N0 : Int) = max cp.toInt 1) (hN4 : N0 ≤ 4) : Go Z k 0 0 ([] : Hp) 22 #[.val (.int i0), .val (.int i1), .val (.int i2), .val (.int i3), .val (.int i4), .val (.int cp), .val (.int (0 : Int32)), .val (.int (0 : Int32)), .unset, .unset, .unset] [] := by
  refine s_new H (C := "com/example/thorough_paths/thoroughpaths/service/Nodes") [("com/example/thorough_paths/thoroughpaths/service/Nodes", "size", "I", (.int (0 : Int32))), ("com/example/thorough_paths/thoroughpaths/service/Nodes", "numbers", "[I", .null)] at_22 (mem (i := 0) rfl) (mem (i := 1) rfl) (mem (i := 2) rfl) (allC ⟨Or.inl (mem (i := 10) rfl), .int, by decide, rfl⟩ (allC ⟨Or.inl (mem (i := 17) rfl), (.array .int), by decide, rfl⟩ allN)) (by decide) (cn' := 1) (sn' := 2) rfl rfl (by decide) (by decide) (pc' := 25) rfl (fun a1 => ?_)
  refine s_dup H at_25 rfl (pc' := 26) rfl ?_
  refine s_iload H at_26 rfl (pc' := 28) rfl ?_
  refine s_init H (met_ni H.tb a1 cp N0 hN hN4) at_28 rfl (mem (i := 3) rfl) (mem (i := 4) rfl) (mem (i := 2) rfl) (mem (i := 5) rfl) (by decide) pd_1 rfl (rest := [(.ref a1)]) rfl rfl (by decide) (Nat.le_of_ble_eq_true rfl) (cn' := 2) (sn' := 6) rfl rfl (by decide) (by decide) (pc' := 31) rfl (fun _ _ hq => ?_)
  obtain ⟨na0, rfl, rfl⟩ := hq
  show Go Z k 2 6 ((na0, ArI Z .int (List.replicate N0 0)) :: (a1, Obj Z "com/example/thorough_paths/thoroughpaths/service/Nodes" [("com/example/thorough_paths/thoroughpaths/service/Nodes", "size", "I", (.int (0 : Nat).toInt32)), ("com/example/thorough_paths/thoroughpaths/service/Nodes", "numbers", "[I", (.ref na0))]) :: []) 31 #[.val (.int i0), .val (.int i1), .val (.int i2), .val (.int i3), .val (.int i4), .val (.int cp), .val (.int (0 : Int32)), .val (.int (0 : Int32)), .unset, .unset, .unset] [(.ref a1)]
  obtain ⟨ns0, he, l0⟩ : ∃ ns : List Int32, ns = List.replicate N0 0 ∧ ns.length = N0 := ⟨_, rfl, by simp⟩
  rw [← he]
  clear he
  have p0 : 0 ≤ ns0.length := Nat.zero_le _
  have k0 : ns0.length ≤ 100 := by omega
  have t0 : ns0.take 0 = [] := rfl
  show Go Z k 2 6 ((na0, ArI Z .int ns0) :: (a1, Obj Z "com/example/thorough_paths/thoroughpaths/service/Nodes" [("com/example/thorough_paths/thoroughpaths/service/Nodes", "size", "I", (.int (0 : Nat).toInt32)), ("com/example/thorough_paths/thoroughpaths/service/Nodes", "numbers", "[I", (.ref na0))]) :: []) 31 #[.val (.int i0), .val (.int i1), .val (.int i2), .val (.int i3), .val (.int i4), .val (.int cp), .val (.int (0 : Int32)), .val (.int (0 : Int32)), .unset, .unset, .unset] [(.ref a1)]
  refine s_astore H at_31 (L' := #[.val (.int i0), .val (.int i1), .val (.int i2), .val (.int i3), .val (.int i4), .val (.int cp), .val (.int (0 : Int32)), .val (.int (0 : Int32)), .val (.ref a1), .unset, .unset]) rfl rfl (pc' := 33) rfl ?_
  refine s_iload H at_33 rfl (pc' := 35) rfl ?_
  refine s_iconst H at_35 (z := (1 : Int32)) (by decide) (pc' := 36) rfl ?_
  refine s_icmp H at_36 (py := 45) (pc' := 39) q_lt (by decide) rfl (fun c36 => ?_) (fun c36 => ?_)
  · refine s_iload H at_45 rfl (pc' := 47) rfl ?_
    refine s_iconst H at_47 (z := (2 : Int32)) (by decide) (pc' := 48) rfl ?_
    refine s_icmp H at_48 (py := 57) (pc' := 51) q_lt (by decide) rfl (fun c48 => ?_) (fun c48 => ?_)
    · refine s_iload H at_57 rfl (pc' := 59) rfl ?_
      refine s_iconst H at_59 (z := (3 : Int32)) (by decide) (pc' := 60) rfl ?_
      refine s_icmp H at_60 (py := 69) (pc' := 63) q_lt (by decide) rfl (fun c60 => ?_) (fun c60 => ?_)
      · refine s_iload H at_69 rfl (pc' := 71) rfl ?_
        refine s_if H at_71 (py := 80) (pc' := 74) z_ne (by decide) rfl (fun c71 => ?_) (fun c71 => ?_)
        · exact absurd c71 (by decide)
        · refine s_iloadn H at_74 rfl (pc' := 75) rfl ?_
          refine s_istore H at_75 (L' := fun z => #[.val (.int i0), .val (.int i1), .val (.int i2), .val (.int i3), .val (.int i4), .val (.int cp), .val (.int (0 : Int32)), .val (.int (0 : Int32)), .val (.ref a1), .val (.int z), .unset]) (fun _ => rfl) (pc' := 77) rfl (fun z0 hz => ?_)
          subst z0
          refine s_goto H at_77 (pc' := 108) (by decide) ?_
          refine s_iload H at_108 rfl (pc' := 110) rfl ?_
          refine s_iconst H at_110 (z := (1 : Int32)) (by decide) (pc' := 111) rfl ?_
          refine s_icmp H at_111 (py := 120) (pc' := 114) q_lt (by decide) rfl (fun c111 => ?_) (fun c111 => ?_)
          · refine s_iload H at_120 rfl (pc' := 122) rfl ?_
            refine s_iconst H at_122 (z := (2 : Int32)) (by decide) (pc' := 123) rfl ?_
            refine s_icmp H at_123 (py := 132) (pc' := 126) q_lt (by decide) rfl (fun c123 => ?_) (fun c123 => ?_)
            · refine s_iload H at_132 rfl (pc' := 134) rfl ?_
              refine s_iconst H at_134 (z := (3 : Int32)) (by decide) (pc' := 135) rfl ?_
              refine s_icmp H at_135 (py := 148) (pc' := 138) q_lt (by decide) rfl (fun c135 => ?_) (fun c135 => ?_)
              · refine s_iconst H at_148 (z := (0 : Int32)) (by decide) (pc' := 149) rfl ?_
                refine s_istore H at_149 (L' := fun z => #[.val (.int i0), .val (.int i1), .val (.int i2), .val (.int i3), .val (.int i4), .val (.int cp), .val (.int (0 : Int32)), .val (.int (0 : Int32)), .val (.ref a1), .val (.int i1), .val (.int z)]) (fun _ => rfl) (pc' := 151) rfl (fun z0 hz => ?_)
                subst z0
                refine s_aload H at_151 rfl rfl (pc' := 153) rfl ?_
                refine s_iload H at_153 rfl (pc' := 155) rfl ?_
                refine s_virtual H (met_nc H.tb a1 na0 ns0 0 i1 p0 k0) at_155 (i := 1) rfl (mem (i := 18) rfl) (mem (i := 19) rfl) (mem (i := 21) rfl) (mem (i := 20) rfl) (mem (i := 2) rfl) (mem (i := 22) rfl) (by decide) pd_4 rfl (rest := []) rfl rfl (by decide) (Nat.le_of_ble_eq_true rfl) (cn' := 2) (sn' := 6) rfl rfl (by decide) (by decide) (pc' := 158) rfl (fun _ _ hq => ?_)
                obtain ⟨rfl, rfl⟩ := hq
                show Go Z k 2 6 ((na0, ArI Z .int ns0) :: (a1, Obj Z "com/example/thorough_paths/thoroughpaths/service/Nodes" [("com/example/thorough_paths/thoroughpaths/service/Nodes", "size", "I", (.int (0 : Nat).toInt32)), ("com/example/thorough_paths/thoroughpaths/service/Nodes", "numbers", "[I", (.ref na0))]) :: []) 158 #[.val (.int i0), .val (.int i1), .val (.int i2), .val (.int i3), .val (.int i4), .val (.int cp), .val (.int (0 : Int32)), .val (.int (0 : Int32)), .val (.ref a1), .val (.int i1), .val (.int (0 : Int32))] [(.int (if i1 ∈ ns0.take 0 then 1 else 0))]
                rw [t0]
                refine s_iload H at_158 rfl (pc' := 160) rfl ?_
                refine s_icmp H at_160 (py := 167) (pc' := 163) q_ne (by decide) rfl (fun c160 => ?_) (fun c160 => ?_)
                · refine s_iconst H at_167 (z := (0 : Int32)) (by decide) (pc' := 168) rfl ?_
                  exfalso
                  clear t0
                  simp_all [eq_comm]
                · refine s_iconst H at_163 (z := (1 : Int32)) (by decide) (pc' := 164) rfl ?_
                  refine s_goto H at_164 (pc' := 168) (by decide) ?_
                  exact s_iret H at_168 rfl (by simp) (by decide) (by decide) (rfl)
              · exact absurd c135 (by decide)
            · exact absurd c123 (by decide)
          · exact absurd c111 (by decide)
      · exact absurd c60 (by decide)
    · exact absurd c48 (by decide)
  · exact absurd c36 (by decide)
set_option maxRecDepth 65536 in
set_option maxHeartbeats 40000000 in
theorem s22_0_1 {Z : State} {k : Cx} {i0 i1 i2 i3 i4 cp : Int32} (N0 : Nat) (H : Ok Z k room_1 (LQ) x code maxLocals ret) (hN : (N0 : Int) = max cp.toInt 1) (hN4 : N0 ≤ 4) : Go Z k 0 0 ([] : Hp) 22 #[.val (.int i0), .val (.int i1), .val (.int i2), .val (.int i3), .val (.int i4), .val (.int cp), .val (.int (0 : Int32)), .val (.int (1 : Int32)), .unset, .unset, .unset] [] := by
  refine s_new H (C := "com/example/thorough_paths/thoroughpaths/service/Nodes") [("com/example/thorough_paths/thoroughpaths/service/Nodes", "size", "I", (.int (0 : Int32))), ("com/example/thorough_paths/thoroughpaths/service/Nodes", "numbers", "[I", .null)] at_22 (mem (i := 0) rfl) (mem (i := 1) rfl) (mem (i := 2) rfl) (allC ⟨Or.inl (mem (i := 10) rfl), .int, by decide, rfl⟩ (allC ⟨Or.inl (mem (i := 17) rfl), (.array .int), by decide, rfl⟩ allN)) (by decide) (cn' := 1) (sn' := 2) rfl rfl (by decide) (by decide) (pc' := 25) rfl (fun a1 => ?_)
  refine s_dup H at_25 rfl (pc' := 26) rfl ?_
  refine s_iload H at_26 rfl (pc' := 28) rfl ?_
  refine s_init H (met_ni H.tb a1 cp N0 hN hN4) at_28 rfl (mem (i := 3) rfl) (mem (i := 4) rfl) (mem (i := 2) rfl) (mem (i := 5) rfl) (by decide) pd_1 rfl (rest := [(.ref a1)]) rfl rfl (by decide) (Nat.le_of_ble_eq_true rfl) (cn' := 2) (sn' := 6) rfl rfl (by decide) (by decide) (pc' := 31) rfl (fun _ _ hq => ?_)
  obtain ⟨na0, rfl, rfl⟩ := hq
  show Go Z k 2 6 ((na0, ArI Z .int (List.replicate N0 0)) :: (a1, Obj Z "com/example/thorough_paths/thoroughpaths/service/Nodes" [("com/example/thorough_paths/thoroughpaths/service/Nodes", "size", "I", (.int (0 : Nat).toInt32)), ("com/example/thorough_paths/thoroughpaths/service/Nodes", "numbers", "[I", (.ref na0))]) :: []) 31 #[.val (.int i0), .val (.int i1), .val (.int i2), .val (.int i3), .val (.int i4), .val (.int cp), .val (.int (0 : Int32)), .val (.int (1 : Int32)), .unset, .unset, .unset] [(.ref a1)]
  obtain ⟨ns0, he, l0⟩ : ∃ ns : List Int32, ns = List.replicate N0 0 ∧ ns.length = N0 := ⟨_, rfl, by simp⟩
  rw [← he]
  clear he
  have p0 : 0 ≤ ns0.length := Nat.zero_le _
  have k0 : ns0.length ≤ 100 := by omega
  have t0 : ns0.take 0 = [] := rfl
  show Go Z k 2 6 ((na0, ArI Z .int ns0) :: (a1, Obj Z "com/example/thorough_paths/thoroughpaths/service/Nodes" [("com/example/thorough_paths/thoroughpaths/service/Nodes", "size", "I", (.int (0 : Nat).toInt32)), ("com/example/thorough_paths/thoroughpaths/service/Nodes", "numbers", "[I", (.ref na0))]) :: []) 31 #[.val (.int i0), .val (.int i1), .val (.int i2), .val (.int i3), .val (.int i4), .val (.int cp), .val (.int (0 : Int32)), .val (.int (1 : Int32)), .unset, .unset, .unset] [(.ref a1)]
  refine s_astore H at_31 (L' := #[.val (.int i0), .val (.int i1), .val (.int i2), .val (.int i3), .val (.int i4), .val (.int cp), .val (.int (0 : Int32)), .val (.int (1 : Int32)), .val (.ref a1), .unset, .unset]) rfl rfl (pc' := 33) rfl ?_
  refine s_iload H at_33 rfl (pc' := 35) rfl ?_
  refine s_iconst H at_35 (z := (1 : Int32)) (by decide) (pc' := 36) rfl ?_
  refine s_icmp H at_36 (py := 45) (pc' := 39) q_lt (by decide) rfl (fun c36 => ?_) (fun c36 => ?_)
  · refine s_iload H at_45 rfl (pc' := 47) rfl ?_
    refine s_iconst H at_47 (z := (2 : Int32)) (by decide) (pc' := 48) rfl ?_
    refine s_icmp H at_48 (py := 57) (pc' := 51) q_lt (by decide) rfl (fun c48 => ?_) (fun c48 => ?_)
    · refine s_iload H at_57 rfl (pc' := 59) rfl ?_
      refine s_iconst H at_59 (z := (3 : Int32)) (by decide) (pc' := 60) rfl ?_
      refine s_icmp H at_60 (py := 69) (pc' := 63) q_lt (by decide) rfl (fun c60 => ?_) (fun c60 => ?_)
      · refine s_iload H at_69 rfl (pc' := 71) rfl ?_
        refine s_if H at_71 (py := 80) (pc' := 74) z_ne (by decide) rfl (fun c71 => ?_) (fun c71 => ?_)
        · refine s_iload H at_80 rfl (pc' := 82) rfl ?_
          refine s_iconst H at_82 (z := (1 : Int32)) (by decide) (pc' := 83) rfl ?_
          refine s_icmp H at_83 (py := 92) (pc' := 86) q_ne (by decide) rfl (fun c83 => ?_) (fun c83 => ?_)
          · exact absurd c83 (by decide)
          · refine s_iloadn H at_86 rfl (pc' := 87) rfl ?_
            refine s_istore H at_87 (L' := fun z => #[.val (.int i0), .val (.int i1), .val (.int i2), .val (.int i3), .val (.int i4), .val (.int cp), .val (.int (0 : Int32)), .val (.int (1 : Int32)), .val (.ref a1), .val (.int z), .unset]) (fun _ => rfl) (pc' := 89) rfl (fun z0 hz => ?_)
            subst z0
            refine s_goto H at_89 (pc' := 108) (by decide) ?_
            refine s_iload H at_108 rfl (pc' := 110) rfl ?_
            refine s_iconst H at_110 (z := (1 : Int32)) (by decide) (pc' := 111) rfl ?_
            refine s_icmp H at_111 (py := 120) (pc' := 114) q_lt (by decide) rfl (fun c111 => ?_) (fun c111 => ?_)
            · refine s_iload H at_120 rfl (pc' := 122) rfl ?_
              refine s_iconst H at_122 (z := (2 : Int32)) (by decide) (pc' := 123) rfl ?_
              refine s_icmp H at_123 (py := 132) (pc' := 126) q_lt (by decide) rfl (fun c123 => ?_) (fun c123 => ?_)
              · refine s_iload H at_132 rfl (pc' := 134) rfl ?_
                refine s_iconst H at_134 (z := (3 : Int32)) (by decide) (pc' := 135) rfl ?_
                refine s_icmp H at_135 (py := 148) (pc' := 138) q_lt (by decide) rfl (fun c135 => ?_) (fun c135 => ?_)
                · refine s_iconst H at_148 (z := (0 : Int32)) (by decide) (pc' := 149) rfl ?_
                  refine s_istore H at_149 (L' := fun z => #[.val (.int i0), .val (.int i1), .val (.int i2), .val (.int i3), .val (.int i4), .val (.int cp), .val (.int (0 : Int32)), .val (.int (1 : Int32)), .val (.ref a1), .val (.int i2), .val (.int z)]) (fun _ => rfl) (pc' := 151) rfl (fun z0 hz => ?_)
                  subst z0
                  refine s_aload H at_151 rfl rfl (pc' := 153) rfl ?_
                  refine s_iload H at_153 rfl (pc' := 155) rfl ?_
                  refine s_virtual H (met_nc H.tb a1 na0 ns0 0 i2 p0 k0) at_155 (i := 1) rfl (mem (i := 18) rfl) (mem (i := 19) rfl) (mem (i := 21) rfl) (mem (i := 20) rfl) (mem (i := 2) rfl) (mem (i := 22) rfl) (by decide) pd_4 rfl (rest := []) rfl rfl (by decide) (Nat.le_of_ble_eq_true rfl) (cn' := 2) (sn' := 6) rfl rfl (by decide) (by decide) (pc' := 158) rfl (fun _ _ hq => ?_)
                  obtain ⟨rfl, rfl⟩ := hq
                  show Go Z k 2 6 ((na0, ArI Z .int ns0) :: (a1, Obj Z "com/example/thorough_paths/thoroughpaths/service/Nodes" [("com/example/thorough_paths/thoroughpaths/service/Nodes", "size", "I", (.int (0 : Nat).toInt32)), ("com/example/thorough_paths/thoroughpaths/service/Nodes", "numbers", "[I", (.ref na0))]) :: []) 158 #[.val (.int i0), .val (.int i1), .val (.int i2), .val (.int i3), .val (.int i4), .val (.int cp), .val (.int (0 : Int32)), .val (.int (1 : Int32)), .val (.ref a1), .val (.int i2), .val (.int (0 : Int32))] [(.int (if i2 ∈ ns0.take 0 then 1 else 0))]
                  rw [t0]
                  refine s_iload H at_158 rfl (pc' := 160) rfl ?_
                  refine s_icmp H at_160 (py := 167) (pc' := 163) q_ne (by decide) rfl (fun c160 => ?_) (fun c160 => ?_)
                  · refine s_iconst H at_167 (z := (0 : Int32)) (by decide) (pc' := 168) rfl ?_
                    exfalso
                    clear t0
                    simp_all [eq_comm]
                  · refine s_iconst H at_163 (z := (1 : Int32)) (by decide) (pc' := 164) rfl ?_
                    refine s_goto H at_164 (pc' := 168) (by decide) ?_
                    exact s_iret H at_168 rfl (by simp) (by decide) (by decide) (rfl)
                · exact absurd c135 (by decide)
              · exact absurd c123 (by decide)
            · exact absurd c111 (by decide)
        · exact absurd c71 (by decide)
      · exact absurd c60 (by decide)
    · exact absurd c48 (by decide)
  · exact absurd c36 (by decide)
set_option maxRecDepth 65536 in
set_option maxHeartbeats 40000000 in
theorem s22_0_2 {Z : State} {k : Cx} {i0 i1 i2 i3 i4 cp : Int32} (N0 : Nat) (H : Ok Z k room_1 (LQ) x code maxLocals ret) (hN : (N0 : Int) = max cp.toInt 1) (hN4 : N0 ≤ 4) : Go Z k 0 0 ([] : Hp) 22 #[.val (.int i0), .val (.int i1), .val (.int i2), .val (.int i3), .val (.int i4), .val (.int cp), .val (.int (0 : Int32)), .val (.int (2 : Int32)), .unset, .unset, .unset] [] := by
  refine s_new H (C := "com/example/thorough_paths/thoroughpaths/service/Nodes") [("com/example/thorough_paths/thoroughpaths/service/Nodes", "size", "I", (.int (0 : Int32))), ("com/example/thorough_paths/thoroughpaths/service/Nodes", "numbers", "[I", .null)] at_22 (mem (i := 0) rfl) (mem (i := 1) rfl) (mem (i := 2) rfl) (allC ⟨Or.inl (mem (i := 10) rfl), .int, by decide, rfl⟩ (allC ⟨Or.inl (mem (i := 17) rfl), (.array .int), by decide, rfl⟩ allN)) (by decide) (cn' := 1) (sn' := 2) rfl rfl (by decide) (by decide) (pc' := 25) rfl (fun a1 => ?_)
  refine s_dup H at_25 rfl (pc' := 26) rfl ?_
  refine s_iload H at_26 rfl (pc' := 28) rfl ?_
  refine s_init H (met_ni H.tb a1 cp N0 hN hN4) at_28 rfl (mem (i := 3) rfl) (mem (i := 4) rfl) (mem (i := 2) rfl) (mem (i := 5) rfl) (by decide) pd_1 rfl (rest := [(.ref a1)]) rfl rfl (by decide) (Nat.le_of_ble_eq_true rfl) (cn' := 2) (sn' := 6) rfl rfl (by decide) (by decide) (pc' := 31) rfl (fun _ _ hq => ?_)
  obtain ⟨na0, rfl, rfl⟩ := hq
  show Go Z k 2 6 ((na0, ArI Z .int (List.replicate N0 0)) :: (a1, Obj Z "com/example/thorough_paths/thoroughpaths/service/Nodes" [("com/example/thorough_paths/thoroughpaths/service/Nodes", "size", "I", (.int (0 : Nat).toInt32)), ("com/example/thorough_paths/thoroughpaths/service/Nodes", "numbers", "[I", (.ref na0))]) :: []) 31 #[.val (.int i0), .val (.int i1), .val (.int i2), .val (.int i3), .val (.int i4), .val (.int cp), .val (.int (0 : Int32)), .val (.int (2 : Int32)), .unset, .unset, .unset] [(.ref a1)]
  obtain ⟨ns0, he, l0⟩ : ∃ ns : List Int32, ns = List.replicate N0 0 ∧ ns.length = N0 := ⟨_, rfl, by simp⟩
  rw [← he]
  clear he
  have p0 : 0 ≤ ns0.length := Nat.zero_le _
  have k0 : ns0.length ≤ 100 := by omega
  have t0 : ns0.take 0 = [] := rfl
  show Go Z k 2 6 ((na0, ArI Z .int ns0) :: (a1, Obj Z "com/example/thorough_paths/thoroughpaths/service/Nodes" [("com/example/thorough_paths/thoroughpaths/service/Nodes", "size", "I", (.int (0 : Nat).toInt32)), ("com/example/thorough_paths/thoroughpaths/service/Nodes", "numbers", "[I", (.ref na0))]) :: []) 31 #[.val (.int i0), .val (.int i1), .val (.int i2), .val (.int i3), .val (.int i4), .val (.int cp), .val (.int (0 : Int32)), .val (.int (2 : Int32)), .unset, .unset, .unset] [(.ref a1)]
  refine s_astore H at_31 (L' := #[.val (.int i0), .val (.int i1), .val (.int i2), .val (.int i3), .val (.int i4), .val (.int cp), .val (.int (0 : Int32)), .val (.int (2 : Int32)), .val (.ref a1), .unset, .unset]) rfl rfl (pc' := 33) rfl ?_
  refine s_iload H at_33 rfl (pc' := 35) rfl ?_
  refine s_iconst H at_35 (z := (1 : Int32)) (by decide) (pc' := 36) rfl ?_
  refine s_icmp H at_36 (py := 45) (pc' := 39) q_lt (by decide) rfl (fun c36 => ?_) (fun c36 => ?_)
  · refine s_iload H at_45 rfl (pc' := 47) rfl ?_
    refine s_iconst H at_47 (z := (2 : Int32)) (by decide) (pc' := 48) rfl ?_
    refine s_icmp H at_48 (py := 57) (pc' := 51) q_lt (by decide) rfl (fun c48 => ?_) (fun c48 => ?_)
    · refine s_iload H at_57 rfl (pc' := 59) rfl ?_
      refine s_iconst H at_59 (z := (3 : Int32)) (by decide) (pc' := 60) rfl ?_
      refine s_icmp H at_60 (py := 69) (pc' := 63) q_lt (by decide) rfl (fun c60 => ?_) (fun c60 => ?_)
      · refine s_iload H at_69 rfl (pc' := 71) rfl ?_
        refine s_if H at_71 (py := 80) (pc' := 74) z_ne (by decide) rfl (fun c71 => ?_) (fun c71 => ?_)
        · refine s_iload H at_80 rfl (pc' := 82) rfl ?_
          refine s_iconst H at_82 (z := (1 : Int32)) (by decide) (pc' := 83) rfl ?_
          refine s_icmp H at_83 (py := 92) (pc' := 86) q_ne (by decide) rfl (fun c83 => ?_) (fun c83 => ?_)
          · refine s_iload H at_92 rfl (pc' := 94) rfl ?_
            refine s_iconst H at_94 (z := (2 : Int32)) (by decide) (pc' := 95) rfl ?_
            refine s_icmp H at_95 (py := 104) (pc' := 98) q_ne (by decide) rfl (fun c95 => ?_) (fun c95 => ?_)
            · exact absurd c95 (by decide)
            · refine s_iloadn H at_98 rfl (pc' := 99) rfl ?_
              refine s_istore H at_99 (L' := fun z => #[.val (.int i0), .val (.int i1), .val (.int i2), .val (.int i3), .val (.int i4), .val (.int cp), .val (.int (0 : Int32)), .val (.int (2 : Int32)), .val (.ref a1), .val (.int z), .unset]) (fun _ => rfl) (pc' := 101) rfl (fun z0 hz => ?_)
              subst z0
              refine s_goto H at_101 (pc' := 108) (by decide) ?_
              refine s_iload H at_108 rfl (pc' := 110) rfl ?_
              refine s_iconst H at_110 (z := (1 : Int32)) (by decide) (pc' := 111) rfl ?_
              refine s_icmp H at_111 (py := 120) (pc' := 114) q_lt (by decide) rfl (fun c111 => ?_) (fun c111 => ?_)
              · refine s_iload H at_120 rfl (pc' := 122) rfl ?_
                refine s_iconst H at_122 (z := (2 : Int32)) (by decide) (pc' := 123) rfl ?_
                refine s_icmp H at_123 (py := 132) (pc' := 126) q_lt (by decide) rfl (fun c123 => ?_) (fun c123 => ?_)
                · refine s_iload H at_132 rfl (pc' := 134) rfl ?_
                  refine s_iconst H at_134 (z := (3 : Int32)) (by decide) (pc' := 135) rfl ?_
                  refine s_icmp H at_135 (py := 148) (pc' := 138) q_lt (by decide) rfl (fun c135 => ?_) (fun c135 => ?_)
                  · refine s_iconst H at_148 (z := (0 : Int32)) (by decide) (pc' := 149) rfl ?_
                    refine s_istore H at_149 (L' := fun z => #[.val (.int i0), .val (.int i1), .val (.int i2), .val (.int i3), .val (.int i4), .val (.int cp), .val (.int (0 : Int32)), .val (.int (2 : Int32)), .val (.ref a1), .val (.int i3), .val (.int z)]) (fun _ => rfl) (pc' := 151) rfl (fun z0 hz => ?_)
                    subst z0
                    refine s_aload H at_151 rfl rfl (pc' := 153) rfl ?_
                    refine s_iload H at_153 rfl (pc' := 155) rfl ?_
                    refine s_virtual H (met_nc H.tb a1 na0 ns0 0 i3 p0 k0) at_155 (i := 1) rfl (mem (i := 18) rfl) (mem (i := 19) rfl) (mem (i := 21) rfl) (mem (i := 20) rfl) (mem (i := 2) rfl) (mem (i := 22) rfl) (by decide) pd_4 rfl (rest := []) rfl rfl (by decide) (Nat.le_of_ble_eq_true rfl) (cn' := 2) (sn' := 6) rfl rfl (by decide) (by decide) (pc' := 158) rfl (fun _ _ hq => ?_)
                    obtain ⟨rfl, rfl⟩ := hq
                    show Go Z k 2 6 ((na0, ArI Z .int ns0) :: (a1, Obj Z "com/example/thorough_paths/thoroughpaths/service/Nodes" [("com/example/thorough_paths/thoroughpaths/service/Nodes", "size", "I", (.int (0 : Nat).toInt32)), ("com/example/thorough_paths/thoroughpaths/service/Nodes", "numbers", "[I", (.ref na0))]) :: []) 158 #[.val (.int i0), .val (.int i1), .val (.int i2), .val (.int i3), .val (.int i4), .val (.int cp), .val (.int (0 : Int32)), .val (.int (2 : Int32)), .val (.ref a1), .val (.int i3), .val (.int (0 : Int32))] [(.int (if i3 ∈ ns0.take 0 then 1 else 0))]
                    rw [t0]
                    refine s_iload H at_158 rfl (pc' := 160) rfl ?_
                    refine s_icmp H at_160 (py := 167) (pc' := 163) q_ne (by decide) rfl (fun c160 => ?_) (fun c160 => ?_)
                    · refine s_iconst H at_167 (z := (0 : Int32)) (by decide) (pc' := 168) rfl ?_
                      exfalso
                      clear t0
                      simp_all [eq_comm]
                    · refine s_iconst H at_163 (z := (1 : Int32)) (by decide) (pc' := 164) rfl ?_
                      refine s_goto H at_164 (pc' := 168) (by decide) ?_
                      exact s_iret H at_168 rfl (by simp) (by decide) (by decide) (rfl)
                  · exact absurd c135 (by decide)
                · exact absurd c123 (by decide)
              · exact absurd c111 (by decide)
          · exact absurd c83 (by decide)
        · exact absurd c71 (by decide)
      · exact absurd c60 (by decide)
    · exact absurd c48 (by decide)
  · exact absurd c36 (by decide)
set_option maxRecDepth 65536 in
set_option maxHeartbeats 40000000 in
theorem s22_0_3 {Z : State} {k : Cx} {i0 i1 i2 i3 i4 cp : Int32} (N0 : Nat) (H : Ok Z k room_1 (LQ) x code maxLocals ret) (hN : (N0 : Int) = max cp.toInt 1) (hN4 : N0 ≤ 4) : Go Z k 0 0 ([] : Hp) 22 #[.val (.int i0), .val (.int i1), .val (.int i2), .val (.int i3), .val (.int i4), .val (.int cp), .val (.int (0 : Int32)), .val (.int (3 : Int32)), .unset, .unset, .unset] [] := by
  refine s_new H (C := "com/example/thorough_paths/thoroughpaths/service/Nodes") [("com/example/thorough_paths/thoroughpaths/service/Nodes", "size", "I", (.int (0 : Int32))), ("com/example/thorough_paths/thoroughpaths/service/Nodes", "numbers", "[I", .null)] at_22 (mem (i := 0) rfl) (mem (i := 1) rfl) (mem (i := 2) rfl) (allC ⟨Or.inl (mem (i := 10) rfl), .int, by decide, rfl⟩ (allC ⟨Or.inl (mem (i := 17) rfl), (.array .int), by decide, rfl⟩ allN)) (by decide) (cn' := 1) (sn' := 2) rfl rfl (by decide) (by decide) (pc' := 25) rfl (fun a1 => ?_)
  refine s_dup H at_25 rfl (pc' := 26) rfl ?_
  refine s_iload H at_26 rfl (pc' := 28) rfl ?_
  refine s_init H (met_ni H.tb a1 cp N0 hN hN4) at_28 rfl (mem (i := 3) rfl) (mem (i := 4) rfl) (mem (i := 2) rfl) (mem (i := 5) rfl) (by decide) pd_1 rfl (rest := [(.ref a1)]) rfl rfl (by decide) (Nat.le_of_ble_eq_true rfl) (cn' := 2) (sn' := 6) rfl rfl (by decide) (by decide) (pc' := 31) rfl (fun _ _ hq => ?_)
  obtain ⟨na0, rfl, rfl⟩ := hq
  show Go Z k 2 6 ((na0, ArI Z .int (List.replicate N0 0)) :: (a1, Obj Z "com/example/thorough_paths/thoroughpaths/service/Nodes" [("com/example/thorough_paths/thoroughpaths/service/Nodes", "size", "I", (.int (0 : Nat).toInt32)), ("com/example/thorough_paths/thoroughpaths/service/Nodes", "numbers", "[I", (.ref na0))]) :: []) 31 #[.val (.int i0), .val (.int i1), .val (.int i2), .val (.int i3), .val (.int i4), .val (.int cp), .val (.int (0 : Int32)), .val (.int (3 : Int32)), .unset, .unset, .unset] [(.ref a1)]
  obtain ⟨ns0, he, l0⟩ : ∃ ns : List Int32, ns = List.replicate N0 0 ∧ ns.length = N0 := ⟨_, rfl, by simp⟩
  rw [← he]
  clear he
  have p0 : 0 ≤ ns0.length := Nat.zero_le _
  have k0 : ns0.length ≤ 100 := by omega
  have t0 : ns0.take 0 = [] := rfl
  show Go Z k 2 6 ((na0, ArI Z .int ns0) :: (a1, Obj Z "com/example/thorough_paths/thoroughpaths/service/Nodes" [("com/example/thorough_paths/thoroughpaths/service/Nodes", "size", "I", (.int (0 : Nat).toInt32)), ("com/example/thorough_paths/thoroughpaths/service/Nodes", "numbers", "[I", (.ref na0))]) :: []) 31 #[.val (.int i0), .val (.int i1), .val (.int i2), .val (.int i3), .val (.int i4), .val (.int cp), .val (.int (0 : Int32)), .val (.int (3 : Int32)), .unset, .unset, .unset] [(.ref a1)]
  refine s_astore H at_31 (L' := #[.val (.int i0), .val (.int i1), .val (.int i2), .val (.int i3), .val (.int i4), .val (.int cp), .val (.int (0 : Int32)), .val (.int (3 : Int32)), .val (.ref a1), .unset, .unset]) rfl rfl (pc' := 33) rfl ?_
  refine s_iload H at_33 rfl (pc' := 35) rfl ?_
  refine s_iconst H at_35 (z := (1 : Int32)) (by decide) (pc' := 36) rfl ?_
  refine s_icmp H at_36 (py := 45) (pc' := 39) q_lt (by decide) rfl (fun c36 => ?_) (fun c36 => ?_)
  · refine s_iload H at_45 rfl (pc' := 47) rfl ?_
    refine s_iconst H at_47 (z := (2 : Int32)) (by decide) (pc' := 48) rfl ?_
    refine s_icmp H at_48 (py := 57) (pc' := 51) q_lt (by decide) rfl (fun c48 => ?_) (fun c48 => ?_)
    · refine s_iload H at_57 rfl (pc' := 59) rfl ?_
      refine s_iconst H at_59 (z := (3 : Int32)) (by decide) (pc' := 60) rfl ?_
      refine s_icmp H at_60 (py := 69) (pc' := 63) q_lt (by decide) rfl (fun c60 => ?_) (fun c60 => ?_)
      · refine s_iload H at_69 rfl (pc' := 71) rfl ?_
        refine s_if H at_71 (py := 80) (pc' := 74) z_ne (by decide) rfl (fun c71 => ?_) (fun c71 => ?_)
        · refine s_iload H at_80 rfl (pc' := 82) rfl ?_
          refine s_iconst H at_82 (z := (1 : Int32)) (by decide) (pc' := 83) rfl ?_
          refine s_icmp H at_83 (py := 92) (pc' := 86) q_ne (by decide) rfl (fun c83 => ?_) (fun c83 => ?_)
          · refine s_iload H at_92 rfl (pc' := 94) rfl ?_
            refine s_iconst H at_94 (z := (2 : Int32)) (by decide) (pc' := 95) rfl ?_
            refine s_icmp H at_95 (py := 104) (pc' := 98) q_ne (by decide) rfl (fun c95 => ?_) (fun c95 => ?_)
            · refine s_iload H at_104 rfl (pc' := 106) rfl ?_
              refine s_istore H at_106 (L' := fun z => #[.val (.int i0), .val (.int i1), .val (.int i2), .val (.int i3), .val (.int i4), .val (.int cp), .val (.int (0 : Int32)), .val (.int (3 : Int32)), .val (.ref a1), .val (.int z), .unset]) (fun _ => rfl) (pc' := 108) rfl (fun z0 hz => ?_)
              subst z0
              refine s_iload H at_108 rfl (pc' := 110) rfl ?_
              refine s_iconst H at_110 (z := (1 : Int32)) (by decide) (pc' := 111) rfl ?_
              refine s_icmp H at_111 (py := 120) (pc' := 114) q_lt (by decide) rfl (fun c111 => ?_) (fun c111 => ?_)
              · refine s_iload H at_120 rfl (pc' := 122) rfl ?_
                refine s_iconst H at_122 (z := (2 : Int32)) (by decide) (pc' := 123) rfl ?_
                refine s_icmp H at_123 (py := 132) (pc' := 126) q_lt (by decide) rfl (fun c123 => ?_) (fun c123 => ?_)
                · refine s_iload H at_132 rfl (pc' := 134) rfl ?_
                  refine s_iconst H at_134 (z := (3 : Int32)) (by decide) (pc' := 135) rfl ?_
                  refine s_icmp H at_135 (py := 148) (pc' := 138) q_lt (by decide) rfl (fun c135 => ?_) (fun c135 => ?_)
                  · refine s_iconst H at_148 (z := (0 : Int32)) (by decide) (pc' := 149) rfl ?_
                    refine s_istore H at_149 (L' := fun z => #[.val (.int i0), .val (.int i1), .val (.int i2), .val (.int i3), .val (.int i4), .val (.int cp), .val (.int (0 : Int32)), .val (.int (3 : Int32)), .val (.ref a1), .val (.int i4), .val (.int z)]) (fun _ => rfl) (pc' := 151) rfl (fun z0 hz => ?_)
                    subst z0
                    refine s_aload H at_151 rfl rfl (pc' := 153) rfl ?_
                    refine s_iload H at_153 rfl (pc' := 155) rfl ?_
                    refine s_virtual H (met_nc H.tb a1 na0 ns0 0 i4 p0 k0) at_155 (i := 1) rfl (mem (i := 18) rfl) (mem (i := 19) rfl) (mem (i := 21) rfl) (mem (i := 20) rfl) (mem (i := 2) rfl) (mem (i := 22) rfl) (by decide) pd_4 rfl (rest := []) rfl rfl (by decide) (Nat.le_of_ble_eq_true rfl) (cn' := 2) (sn' := 6) rfl rfl (by decide) (by decide) (pc' := 158) rfl (fun _ _ hq => ?_)
                    obtain ⟨rfl, rfl⟩ := hq
                    show Go Z k 2 6 ((na0, ArI Z .int ns0) :: (a1, Obj Z "com/example/thorough_paths/thoroughpaths/service/Nodes" [("com/example/thorough_paths/thoroughpaths/service/Nodes", "size", "I", (.int (0 : Nat).toInt32)), ("com/example/thorough_paths/thoroughpaths/service/Nodes", "numbers", "[I", (.ref na0))]) :: []) 158 #[.val (.int i0), .val (.int i1), .val (.int i2), .val (.int i3), .val (.int i4), .val (.int cp), .val (.int (0 : Int32)), .val (.int (3 : Int32)), .val (.ref a1), .val (.int i4), .val (.int (0 : Int32))] [(.int (if i4 ∈ ns0.take 0 then 1 else 0))]
                    rw [t0]
                    refine s_iload H at_158 rfl (pc' := 160) rfl ?_
                    refine s_icmp H at_160 (py := 167) (pc' := 163) q_ne (by decide) rfl (fun c160 => ?_) (fun c160 => ?_)
                    · refine s_iconst H at_167 (z := (0 : Int32)) (by decide) (pc' := 168) rfl ?_
                      exfalso
                      clear t0
                      simp_all [eq_comm]
                    · refine s_iconst H at_163 (z := (1 : Int32)) (by decide) (pc' := 164) rfl ?_
                      refine s_goto H at_164 (pc' := 168) (by decide) ?_
                      exact s_iret H at_168 rfl (by simp) (by decide) (by decide) (rfl)
                  · exact absurd c135 (by decide)
                · exact absurd c123 (by decide)
              · exact absurd c111 (by decide)
            · exact absurd c95 (by decide)
          · exact absurd c83 (by decide)
        · exact absurd c71 (by decide)
      · exact absurd c60 (by decide)
    · exact absurd c48 (by decide)
  · exact absurd c36 (by decide)
set_option maxRecDepth 65536 in
set_option maxHeartbeats 40000000 in
theorem s22_1_0 {Z : State} {k : Cx} {i0 i1 i2 i3 i4 cp : Int32} (N0 : Nat) (H : Ok Z k room_1 (LQ) x code maxLocals ret) (hN : (N0 : Int) = max cp.toInt 1) (hN4 : N0 ≤ 4) : Go Z k 0 0 ([] : Hp) 22 #[.val (.int i0), .val (.int i1), .val (.int i2), .val (.int i3), .val (.int i4), .val (.int cp), .val (.int (1 : Int32)), .val (.int (0 : Int32)), .unset, .unset, .unset] [] := by
  refine s_new H (C := "com/example/thorough_paths/thoroughpaths/service/Nodes") [("com/example/thorough_paths/thoroughpaths/service/Nodes", "size", "I", (.int (0 : Int32))), ("com/example/thorough_paths/thoroughpaths/service/Nodes", "numbers", "[I", .null)] at_22 (mem (i := 0) rfl) (mem (i := 1) rfl) (mem (i := 2) rfl) (allC ⟨Or.inl (mem (i := 10) rfl), .int, by decide, rfl⟩ (allC ⟨Or.inl (mem (i := 17) rfl), (.array .int), by decide, rfl⟩ allN)) (by decide) (cn' := 1) (sn' := 2) rfl rfl (by decide) (by decide) (pc' := 25) rfl (fun a1 => ?_)
  refine s_dup H at_25 rfl (pc' := 26) rfl ?_
  refine s_iload H at_26 rfl (pc' := 28) rfl ?_
  refine s_init H (met_ni H.tb a1 cp N0 hN hN4) at_28 rfl (mem (i := 3) rfl) (mem (i := 4) rfl) (mem (i := 2) rfl) (mem (i := 5) rfl) (by decide) pd_1 rfl (rest := [(.ref a1)]) rfl rfl (by decide) (Nat.le_of_ble_eq_true rfl) (cn' := 2) (sn' := 6) rfl rfl (by decide) (by decide) (pc' := 31) rfl (fun _ _ hq => ?_)
  obtain ⟨na0, rfl, rfl⟩ := hq
  show Go Z k 2 6 ((na0, ArI Z .int (List.replicate N0 0)) :: (a1, Obj Z "com/example/thorough_paths/thoroughpaths/service/Nodes" [("com/example/thorough_paths/thoroughpaths/service/Nodes", "size", "I", (.int (0 : Nat).toInt32)), ("com/example/thorough_paths/thoroughpaths/service/Nodes", "numbers", "[I", (.ref na0))]) :: []) 31 #[.val (.int i0), .val (.int i1), .val (.int i2), .val (.int i3), .val (.int i4), .val (.int cp), .val (.int (1 : Int32)), .val (.int (0 : Int32)), .unset, .unset, .unset] [(.ref a1)]
  obtain ⟨ns0, he, l0⟩ : ∃ ns : List Int32, ns = List.replicate N0 0 ∧ ns.length = N0 := ⟨_, rfl, by simp⟩
  rw [← he]
  clear he
  have p0 : 0 ≤ ns0.length := Nat.zero_le _
  have k0 : ns0.length ≤ 100 := by omega
  have t0 : ns0.take 0 = [] := rfl
  show Go Z k 2 6 ((na0, ArI Z .int ns0) :: (a1, Obj Z "com/example/thorough_paths/thoroughpaths/service/Nodes" [("com/example/thorough_paths/thoroughpaths/service/Nodes", "size", "I", (.int (0 : Nat).toInt32)), ("com/example/thorough_paths/thoroughpaths/service/Nodes", "numbers", "[I", (.ref na0))]) :: []) 31 #[.val (.int i0), .val (.int i1), .val (.int i2), .val (.int i3), .val (.int i4), .val (.int cp), .val (.int (1 : Int32)), .val (.int (0 : Int32)), .unset, .unset, .unset] [(.ref a1)]
  refine s_astore H at_31 (L' := #[.val (.int i0), .val (.int i1), .val (.int i2), .val (.int i3), .val (.int i4), .val (.int cp), .val (.int (1 : Int32)), .val (.int (0 : Int32)), .val (.ref a1), .unset, .unset]) rfl rfl (pc' := 33) rfl ?_
  refine s_iload H at_33 rfl (pc' := 35) rfl ?_
  refine s_iconst H at_35 (z := (1 : Int32)) (by decide) (pc' := 36) rfl ?_
  refine s_icmp H at_36 (py := 45) (pc' := 39) q_lt (by decide) rfl (fun c36 => ?_) (fun c36 => ?_)
  · exact absurd c36 (by decide)
  · refine s_aload H at_39 rfl rfl (pc' := 41) rfl ?_
    refine s_iloadn H at_41 rfl (pc' := 42) rfl ?_
    refine s_virtual H (met_na H.tb a1 na0 ns0 ([] : List Int32) 0 i1 p0 (by decide) k0 t0) at_42 (i := 1) rfl (mem (i := 23) rfl) (mem (i := 24) rfl) (mem (i := 26) rfl) (mem (i := 25) rfl) (mem (i := 2) rfl) (mem (i := 27) rfl) (by decide) pd_5 rfl (rest := []) rfl rfl (by decide) (Nat.le_of_ble_eq_true rfl) (cn' := 3) (sn' := 10) rfl rfl (by decide) (by decide) (pc' := 45) rfl (fun _ _ hq => ?_)
    obtain ⟨na1, ns1, F1, p1, k1, t1', rfl, rfl⟩ := hq
    show Go Z k 3 10 ((na1, ArI Z .int ns1) :: (a1, Obj Z "com/example/thorough_paths/thoroughpaths/service/Nodes" [("com/example/thorough_paths/thoroughpaths/service/Nodes", "size", "I", (.int (1 : Nat).toInt32)), ("com/example/thorough_paths/thoroughpaths/service/Nodes", "numbers", "[I", (.ref na1))]) :: F1) 45 #[.val (.int i0), .val (.int i1), .val (.int i2), .val (.int i3), .val (.int i4), .val (.int cp), .val (.int (1 : Int32)), .val (.int (0 : Int32)), .val (.ref a1), .unset, .unset] []
    have t1 : ns1.take 1 = ([i1] : List Int32) := t1'
    refine s_iload H at_45 rfl (pc' := 47) rfl ?_
    refine s_iconst H at_47 (z := (2 : Int32)) (by decide) (pc' := 48) rfl ?_
    refine s_icmp H at_48 (py := 57) (pc' := 51) q_lt (by decide) rfl (fun c48 => ?_) (fun c48 => ?_)
    · refine s_iload H at_57 rfl (pc' := 59) rfl ?_
      refine s_iconst H at_59 (z := (3 : Int32)) (by decide) (pc' := 60) rfl ?_
      refine s_icmp H at_60 (py := 69) (pc' := 63) q_lt (by decide) rfl (fun c60 => ?_) (fun c60 => ?_)
      · refine s_iload H at_69 rfl (pc' := 71) rfl ?_
        refine s_if H at_71 (py := 80) (pc' := 74) z_ne (by decide) rfl (fun c71 => ?_) (fun c71 => ?_)
        · exact absurd c71 (by decide)
        · refine s_iloadn H at_74 rfl (pc' := 75) rfl ?_
          refine s_istore H at_75 (L' := fun z => #[.val (.int i0), .val (.int i1), .val (.int i2), .val (.int i3), .val (.int i4), .val (.int cp), .val (.int (1 : Int32)), .val (.int (0 : Int32)), .val (.ref a1), .val (.int z), .unset]) (fun _ => rfl) (pc' := 77) rfl (fun z0 hz => ?_)
          subst z0
          refine s_goto H at_77 (pc' := 108) (by decide) ?_
          refine s_iload H at_108 rfl (pc' := 110) rfl ?_
          refine s_iconst H at_110 (z := (1 : Int32)) (by decide) (pc' := 111) rfl ?_
          refine s_icmp H at_111 (py := 120) (pc' := 114) q_lt (by decide) rfl (fun c111 => ?_) (fun c111 => ?_)
          · exact absurd c111 (by decide)
          · refine s_iloadn H at_114 rfl (pc' := 115) rfl ?_
            refine s_iload H at_115 rfl (pc' := 117) rfl ?_
            refine s_icmp H at_117 (py := 144) (pc' := 120) q_eq (by decide) rfl (fun c117 => ?_) (fun c117 => ?_)
            · refine s_iconst H at_144 (z := (1 : Int32)) (by decide) (pc' := 145) rfl ?_
              refine s_goto H at_145 (pc' := 149) (by decide) ?_
              refine s_istore H at_149 (L' := fun z => #[.val (.int i0), .val (.int i1), .val (.int i2), .val (.int i3), .val (.int i4), .val (.int cp), .val (.int (1 : Int32)), .val (.int (0 : Int32)), .val (.ref a1), .val (.int i1), .val (.int z)]) (fun _ => rfl) (pc' := 151) rfl (fun z0 hz => ?_)
              subst z0
              refine s_aload H at_151 rfl rfl (pc' := 153) rfl ?_
              refine s_iload H at_153 rfl (pc' := 155) rfl ?_
              refine s_virtual H (met_nc H.tb a1 na1 ns1 1 i1 p1 k1) at_155 (i := 1) rfl (mem (i := 18) rfl) (mem (i := 19) rfl) (mem (i := 21) rfl) (mem (i := 20) rfl) (mem (i := 2) rfl) (mem (i := 22) rfl) (by decide) pd_4 rfl (rest := []) rfl rfl (by decide) (Nat.le_of_ble_eq_true rfl) (cn' := 3) (sn' := 10) rfl rfl (by decide) (by decide) (pc' := 158) rfl (fun _ _ hq => ?_)
              obtain ⟨rfl, rfl⟩ := hq
              show Go Z k 3 10 ((na1, ArI Z .int ns1) :: (a1, Obj Z "com/example/thorough_paths/thoroughpaths/service/Nodes" [("com/example/thorough_paths/thoroughpaths/service/Nodes", "size", "I", (.int (1 : Nat).toInt32)), ("com/example/thorough_paths/thoroughpaths/service/Nodes", "numbers", "[I", (.ref na1))]) :: F1) 158 #[.val (.int i0), .val (.int i1), .val (.int i2), .val (.int i3), .val (.int i4), .val (.int cp), .val (.int (1 : Int32)), .val (.int (0 : Int32)), .val (.ref a1), .val (.int i1), .val (.int (1 : Int32))] [(.int (if i1 ∈ ns1.take 1 then 1 else 0))]
              rw [t1]
              refine s_iload H at_158 rfl (pc' := 160) rfl ?_
              refine s_icmp H at_160 (py := 167) (pc' := 163) q_ne (by decide) rfl (fun c160 => ?_) (fun c160 => ?_)
              · refine s_iconst H at_167 (z := (0 : Int32)) (by decide) (pc' := 168) rfl ?_
                exfalso
                clear t0 t1 t1'
                simp_all [eq_comm]
              · refine s_iconst H at_163 (z := (1 : Int32)) (by decide) (pc' := 164) rfl ?_
                refine s_goto H at_164 (pc' := 168) (by decide) ?_
                exact s_iret H at_168 rfl (by simp) (by decide) (by decide) (rfl)
            · exact absurd rfl c117
      · exact absurd c60 (by decide)
    · exact absurd c48 (by decide)
set_option maxRecDepth 65536 in
set_option maxHeartbeats 40000000 in
theorem s22_1_1 {Z : State} {k : Cx} {i0 i1 i2 i3 i4 cp : Int32} (N0 : Nat) (H : Ok Z k room_1 (LQ) x code maxLocals ret) (hN : (N0 : Int) = max cp.toInt 1) (hN4 : N0 ≤ 4) : Go Z k 0 0 ([] : Hp) 22 #[.val (.int i0), .val (.int i1), .val (.int i2), .val (.int i3), .val (.int i4), .val (.int cp), .val (.int (1 : Int32)), .val (.int (1 : Int32)), .unset, .unset, .unset] [] := by
  refine s_new H (C := "com/example/thorough_paths/thoroughpaths/service/Nodes") [("com/example/thorough_paths/thoroughpaths/service/Nodes", "size", "I", (.int (0 : Int32))), ("com/example/thorough_paths/thoroughpaths/service/Nodes", "numbers", "[I", .null)] at_22 (mem (i := 0) rfl) (mem (i := 1) rfl) (mem (i := 2) rfl) (allC ⟨Or.inl (mem (i := 10) rfl), .int, by decide, rfl⟩ (allC ⟨Or.inl (mem (i := 17) rfl), (.array .int), by decide, rfl⟩ allN)) (by decide) (cn' := 1) (sn' := 2) rfl rfl (by decide) (by decide) (pc' := 25) rfl (fun a1 => ?_)
  refine s_dup H at_25 rfl (pc' := 26) rfl ?_
  refine s_iload H at_26 rfl (pc' := 28) rfl ?_
  refine s_init H (met_ni H.tb a1 cp N0 hN hN4) at_28 rfl (mem (i := 3) rfl) (mem (i := 4) rfl) (mem (i := 2) rfl) (mem (i := 5) rfl) (by decide) pd_1 rfl (rest := [(.ref a1)]) rfl rfl (by decide) (Nat.le_of_ble_eq_true rfl) (cn' := 2) (sn' := 6) rfl rfl (by decide) (by decide) (pc' := 31) rfl (fun _ _ hq => ?_)
  obtain ⟨na0, rfl, rfl⟩ := hq
  show Go Z k 2 6 ((na0, ArI Z .int (List.replicate N0 0)) :: (a1, Obj Z "com/example/thorough_paths/thoroughpaths/service/Nodes" [("com/example/thorough_paths/thoroughpaths/service/Nodes", "size", "I", (.int (0 : Nat).toInt32)), ("com/example/thorough_paths/thoroughpaths/service/Nodes", "numbers", "[I", (.ref na0))]) :: []) 31 #[.val (.int i0), .val (.int i1), .val (.int i2), .val (.int i3), .val (.int i4), .val (.int cp), .val (.int (1 : Int32)), .val (.int (1 : Int32)), .unset, .unset, .unset] [(.ref a1)]
  obtain ⟨ns0, he, l0⟩ : ∃ ns : List Int32, ns = List.replicate N0 0 ∧ ns.length = N0 := ⟨_, rfl, by simp⟩
  rw [← he]
  clear he
  have p0 : 0 ≤ ns0.length := Nat.zero_le _
  have k0 : ns0.length ≤ 100 := by omega
  have t0 : ns0.take 0 = [] := rfl
  show Go Z k 2 6 ((na0, ArI Z .int ns0) :: (a1, Obj Z "com/example/thorough_paths/thoroughpaths/service/Nodes" [("com/example/thorough_paths/thoroughpaths/service/Nodes", "size", "I", (.int (0 : Nat).toInt32)), ("com/example/thorough_paths/thoroughpaths/service/Nodes", "numbers", "[I", (.ref na0))]) :: []) 31 #[.val (.int i0), .val (.int i1), .val (.int i2), .val (.int i3), .val (.int i4), .val (.int cp), .val (.int (1 : Int32)), .val (.int (1 : Int32)), .unset, .unset, .unset] [(.ref a1)]
  refine s_astore H at_31 (L' := #[.val (.int i0), .val (.int i1), .val (.int i2), .val (.int i3), .val (.int i4), .val (.int cp), .val (.int (1 : Int32)), .val (.int (1 : Int32)), .val (.ref a1), .unset, .unset]) rfl rfl (pc' := 33) rfl ?_
  refine s_iload H at_33 rfl (pc' := 35) rfl ?_
  refine s_iconst H at_35 (z := (1 : Int32)) (by decide) (pc' := 36) rfl ?_
  refine s_icmp H at_36 (py := 45) (pc' := 39) q_lt (by decide) rfl (fun c36 => ?_) (fun c36 => ?_)
  · exact absurd c36 (by decide)
  · refine s_aload H at_39 rfl rfl (pc' := 41) rfl ?_
    refine s_iloadn H at_41 rfl (pc' := 42) rfl ?_
    refine s_virtual H (met_na H.tb a1 na0 ns0 ([] : List Int32) 0 i1 p0 (by decide) k0 t0) at_42 (i := 1) rfl (mem (i := 23) rfl) (mem (i := 24) rfl) (mem (i := 26) rfl) (mem (i := 25) rfl) (mem (i := 2) rfl) (mem (i := 27) rfl) (by decide) pd_5 rfl (rest := []) rfl rfl (by decide) (Nat.le_of_ble_eq_true rfl) (cn' := 3) (sn' := 10) rfl rfl (by decide) (by decide) (pc' := 45) rfl (fun _ _ hq => ?_)
    obtain ⟨na1, ns1, F1, p1, k1, t1', rfl, rfl⟩ := hq
    show Go Z k 3 10 ((na1, ArI Z .int ns1) :: (a1, Obj Z "com/example/thorough_paths/thoroughpaths/service/Nodes" [("com/example/thorough_paths/thoroughpaths/service/Nodes", "size", "I", (.int (1 : Nat).toInt32)), ("com/example/thorough_paths/thoroughpaths/service/Nodes", "numbers", "[I", (.ref na1))]) :: F1) 45 #[.val (.int i0), .val (.int i1), .val (.int i2), .val (.int i3), .val (.int i4), .val (.int cp), .val (.int (1 : Int32)), .val (.int (1 : Int32)), .val (.ref a1), .unset, .unset] []
    have t1 : ns1.take 1 = ([i1] : List Int32) := t1'
    refine s_iload H at_45 rfl (pc' := 47) rfl ?_
    refine s_iconst H at_47 (z := (2 : Int32)) (by decide) (pc' := 48) rfl ?_
    refine s_icmp H at_48 (py := 57) (pc' := 51) q_lt (by decide) rfl (fun c48 => ?_) (fun c48 => ?_)
    · refine s_iload H at_57 rfl (pc' := 59) rfl ?_
      refine s_iconst H at_59 (z := (3 : Int32)) (by decide) (pc' := 60) rfl ?_
      refine s_icmp H at_60 (py := 69) (pc' := 63) q_lt (by decide) rfl (fun c60 => ?_) (fun c60 => ?_)
      · refine s_iload H at_69 rfl (pc' := 71) rfl ?_
        refine s_if H at_71 (py := 80) (pc' := 74) z_ne (by decide) rfl (fun c71 => ?_) (fun c71 => ?_)
        · refine s_iload H at_80 rfl (pc' := 82) rfl ?_
          refine s_iconst H at_82 (z := (1 : Int32)) (by decide) (pc' := 83) rfl ?_
          refine s_icmp H at_83 (py := 92) (pc' := 86) q_ne (by decide) rfl (fun c83 => ?_) (fun c83 => ?_)
          · exact absurd c83 (by decide)
          · refine s_iloadn H at_86 rfl (pc' := 87) rfl ?_
            refine s_istore H at_87 (L' := fun z => #[.val (.int i0), .val (.int i1), .val (.int i2), .val (.int i3), .val (.int i4), .val (.int cp), .val (.int (1 : Int32)), .val (.int (1 : Int32)), .val (.ref a1), .val (.int z), .unset]) (fun _ => rfl) (pc' := 89) rfl (fun z0 hz => ?_)
            subst z0
            refine s_goto H at_89 (pc' := 108) (by decide) ?_
            refine s_iload H at_108 rfl (pc' := 110) rfl ?_
            refine s_iconst H at_110 (z := (1 : Int32)) (by decide) (pc' := 111) rfl ?_
            refine s_icmp H at_111 (py := 120) (pc' := 114) q_lt (by decide) rfl (fun c111 => ?_) (fun c111 => ?_)
            · exact absurd c111 (by decide)
            · refine s_iloadn H at_114 rfl (pc' := 115) rfl ?_
              refine s_iload H at_115 rfl (pc' := 117) rfl ?_
              refine s_icmp H at_117 (py := 144) (pc' := 120) q_eq (by decide) rfl (fun c117 => ?_) (fun c117 => ?_)
              · refine s_iconst H at_144 (z := (1 : Int32)) (by decide) (pc' := 145) rfl ?_
                refine s_goto H at_145 (pc' := 149) (by decide) ?_
                refine s_istore H at_149 (L' := fun z => #[.val (.int i0), .val (.int i1), .val (.int i2), .val (.int i3), .val (.int i4), .val (.int cp), .val (.int (1 : Int32)), .val (.int (1 : Int32)), .val (.ref a1), .val (.int i2), .val (.int z)]) (fun _ => rfl) (pc' := 151) rfl (fun z0 hz => ?_)
                subst z0
                refine s_aload H at_151 rfl rfl (pc' := 153) rfl ?_
                refine s_iload H at_153 rfl (pc' := 155) rfl ?_
                refine s_virtual H (met_nc H.tb a1 na1 ns1 1 i2 p1 k1) at_155 (i := 1) rfl (mem (i := 18) rfl) (mem (i := 19) rfl) (mem (i := 21) rfl) (mem (i := 20) rfl) (mem (i := 2) rfl) (mem (i := 22) rfl) (by decide) pd_4 rfl (rest := []) rfl rfl (by decide) (Nat.le_of_ble_eq_true rfl) (cn' := 3) (sn' := 10) rfl rfl (by decide) (by decide) (pc' := 158) rfl (fun _ _ hq => ?_)
                obtain ⟨rfl, rfl⟩ := hq
                show Go Z k 3 10 ((na1, ArI Z .int ns1) :: (a1, Obj Z "com/example/thorough_paths/thoroughpaths/service/Nodes" [("com/example/thorough_paths/thoroughpaths/service/Nodes", "size", "I", (.int (1 : Nat).toInt32)), ("com/example/thorough_paths/thoroughpaths/service/Nodes", "numbers", "[I", (.ref na1))]) :: F1) 158 #[.val (.int i0), .val (.int i1), .val (.int i2), .val (.int i3), .val (.int i4), .val (.int cp), .val (.int (1 : Int32)), .val (.int (1 : Int32)), .val (.ref a1), .val (.int i2), .val (.int (1 : Int32))] [(.int (if i2 ∈ ns1.take 1 then 1 else 0))]
                rw [t1]
                refine s_iload H at_158 rfl (pc' := 160) rfl ?_
                refine s_icmp H at_160 (py := 167) (pc' := 163) q_ne (by decide) rfl (fun c160 => ?_) (fun c160 => ?_)
                · refine s_iconst H at_167 (z := (0 : Int32)) (by decide) (pc' := 168) rfl ?_
                  exfalso
                  clear t0 t1 t1'
                  simp_all [eq_comm]
                · refine s_iconst H at_163 (z := (1 : Int32)) (by decide) (pc' := 164) rfl ?_
                  refine s_goto H at_164 (pc' := 168) (by decide) ?_
                  exact s_iret H at_168 rfl (by simp) (by decide) (by decide) (rfl)
              · refine s_iload H at_120 rfl (pc' := 122) rfl ?_
                refine s_iconst H at_122 (z := (2 : Int32)) (by decide) (pc' := 123) rfl ?_
                refine s_icmp H at_123 (py := 132) (pc' := 126) q_lt (by decide) rfl (fun c123 => ?_) (fun c123 => ?_)
                · refine s_iload H at_132 rfl (pc' := 134) rfl ?_
                  refine s_iconst H at_134 (z := (3 : Int32)) (by decide) (pc' := 135) rfl ?_
                  refine s_icmp H at_135 (py := 148) (pc' := 138) q_lt (by decide) rfl (fun c135 => ?_) (fun c135 => ?_)
                  · refine s_iconst H at_148 (z := (0 : Int32)) (by decide) (pc' := 149) rfl ?_
                    refine s_istore H at_149 (L' := fun z => #[.val (.int i0), .val (.int i1), .val (.int i2), .val (.int i3), .val (.int i4), .val (.int cp), .val (.int (1 : Int32)), .val (.int (1 : Int32)), .val (.ref a1), .val (.int i2), .val (.int z)]) (fun _ => rfl) (pc' := 151) rfl (fun z0 hz => ?_)
                    subst z0
                    refine s_aload H at_151 rfl rfl (pc' := 153) rfl ?_
                    refine s_iload H at_153 rfl (pc' := 155) rfl ?_
                    refine s_virtual H (met_nc H.tb a1 na1 ns1 1 i2 p1 k1) at_155 (i := 1) rfl (mem (i := 18) rfl) (mem (i := 19) rfl) (mem (i := 21) rfl) (mem (i := 20) rfl) (mem (i := 2) rfl) (mem (i := 22) rfl) (by decide) pd_4 rfl (rest := []) rfl rfl (by decide) (Nat.le_of_ble_eq_true rfl) (cn' := 3) (sn' := 10) rfl rfl (by decide) (by decide) (pc' := 158) rfl (fun _ _ hq => ?_)
                    obtain ⟨rfl, rfl⟩ := hq
                    show Go Z k 3 10 ((na1, ArI Z .int ns1) :: (a1, Obj Z "com/example/thorough_paths/thoroughpaths/service/Nodes" [("com/example/thorough_paths/thoroughpaths/service/Nodes", "size", "I", (.int (1 : Nat).toInt32)), ("com/example/thorough_paths/thoroughpaths/service/Nodes", "numbers", "[I", (.ref na1))]) :: F1) 158 #[.val (.int i0), .val (.int i1), .val (.int i2), .val (.int i3), .val (.int i4), .val (.int cp), .val (.int (1 : Int32)), .val (.int (1 : Int32)), .val (.ref a1), .val (.int i2), .val (.int (0 : Int32))] [(.int (if i2 ∈ ns1.take 1 then 1 else 0))]
                    rw [t1]
                    refine s_iload H at_158 rfl (pc' := 160) rfl ?_
                    refine s_icmp H at_160 (py := 167) (pc' := 163) q_ne (by decide) rfl (fun c160 => ?_) (fun c160 => ?_)
                    · refine s_iconst H at_167 (z := (0 : Int32)) (by decide) (pc' := 168) rfl ?_
                      exfalso
                      clear t0 t1 t1'
                      simp_all [eq_comm]
                    · refine s_iconst H at_163 (z := (1 : Int32)) (by decide) (pc' := 164) rfl ?_
                      refine s_goto H at_164 (pc' := 168) (by decide) ?_
                      exact s_iret H at_168 rfl (by simp) (by decide) (by decide) (rfl)
                  · exact absurd c135 (by decide)
                · exact absurd c123 (by decide)
        · exact absurd c71 (by decide)
      · exact absurd c60 (by decide)
    · exact absurd c48 (by decide)
set_option maxRecDepth 65536 in
set_option maxHeartbeats 40000000 in
theorem s22_1_2 {Z : State} {k : Cx} {i0 i1 i2 i3 i4 cp : Int32} (N0 : Nat) (H : Ok Z k room_1 (LQ) x code maxLocals ret) (hN : (N0 : Int) = max cp.toInt 1) (hN4 : N0 ≤ 4) : Go Z k 0 0 ([] : Hp) 22 #[.val (.int i0), .val (.int i1), .val (.int i2), .val (.int i3), .val (.int i4), .val (.int cp), .val (.int (1 : Int32)), .val (.int (2 : Int32)), .unset, .unset, .unset] [] := by
  refine s_new H (C := "com/example/thorough_paths/thoroughpaths/service/Nodes") [("com/example/thorough_paths/thoroughpaths/service/Nodes", "size", "I", (.int (0 : Int32))), ("com/example/thorough_paths/thoroughpaths/service/Nodes", "numbers", "[I", .null)] at_22 (mem (i := 0) rfl) (mem (i := 1) rfl) (mem (i := 2) rfl) (allC ⟨Or.inl (mem (i := 10) rfl), .int, by decide, rfl⟩ (allC ⟨Or.inl (mem (i := 17) rfl), (.array .int), by decide, rfl⟩ allN)) (by decide) (cn' := 1) (sn' := 2) rfl rfl (by decide) (by decide) (pc' := 25) rfl (fun a1 => ?_)
  refine s_dup H at_25 rfl (pc' := 26) rfl ?_
  refine s_iload H at_26 rfl (pc' := 28) rfl ?_
  refine s_init H (met_ni H.tb a1 cp N0 hN hN4) at_28 rfl (mem (i := 3) rfl) (mem (i := 4) rfl) (mem (i := 2) rfl) (mem (i := 5) rfl) (by decide) pd_1 rfl (rest := [(.ref a1)]) rfl rfl (by decide) (Nat.le_of_ble_eq_true rfl) (cn' := 2) (sn' := 6) rfl rfl (by decide) (by decide) (pc' := 31) rfl (fun _ _ hq => ?_)
  obtain ⟨na0, rfl, rfl⟩ := hq
  show Go Z k 2 6 ((na0, ArI Z .int (List.replicate N0 0)) :: (a1, Obj Z "com/example/thorough_paths/thoroughpaths/service/Nodes" [("com/example/thorough_paths/thoroughpaths/service/Nodes", "size", "I", (.int (0 : Nat).toInt32)), ("com/example/thorough_paths/thoroughpaths/service/Nodes", "numbers", "[I", (.ref na0))]) :: []) 31 #[.val (.int i0), .val (.int i1), .val (.int i2), .val (.int i3), .val (.int i4), .val (.int cp), .val (.int (1 : Int32)), .val (.int (2 : Int32)), .unset, .unset, .unset] [(.ref a1)]
  obtain ⟨ns0, he, l0⟩ : ∃ ns : List Int32, ns = List.replicate N0 0 ∧ ns.length = N0 := ⟨_, rfl, by simp⟩
  rw [← he]
  clear he
  have p0 : 0 ≤ ns0.length := Nat.zero_le _
  have k0 : ns0.length ≤ 100 := by omega
  have t0 : ns0.take 0 = [] := rfl
  show Go Z k 2 6 ((na0, ArI Z .int ns0) :: (a1, Obj Z "com/example/thorough_paths/thoroughpaths/service/Nodes" [("com/example/thorough_paths/thoroughpaths/service/Nodes", "size", "I", (.int (0 : Nat).toInt32)), ("com/example/thorough_paths/thoroughpaths/service/Nodes", "numbers", "[I", (.ref na0))]) :: []) 31 #[.val (.int i0), .val (.int i1), .val (.int i2), .val (.int i3), .val (.int i4), .val (.int cp), .val (.int (1 : Int32)), .val (.int (2 : Int32)), .unset, .unset, .unset] [(.ref a1)]
  refine s_astore H at_31 (L' := #[.val (.int i0), .val (.int i1), .val (.int i2), .val (.int i3), .val (.int i4), .val (.int cp), .val (.int (1 : Int32)), .val (.int (2 : Int32)), .val (.ref a1), .unset, .unset]) rfl rfl (pc' := 33) rfl ?_
  refine s_iload H at_33 rfl (pc' := 35) rfl ?_
  refine s_iconst H at_35 (z := (1 : Int32)) (by decide) (pc' := 36) rfl ?_
  refine s_icmp H at_36 (py := 45) (pc' := 39) q_lt (by decide) rfl (fun c36 => ?_) (fun c36 => ?_)
  · exact absurd c36 (by decide)
  · refine s_aload H at_39 rfl rfl (pc' := 41) rfl ?_
    refine s_iloadn H at_41 rfl (pc' := 42) rfl ?_
    refine s_virtual H (met_na H.tb a1 na0 ns0 ([] : List Int32) 0 i1 p0 (by decide) k0 t0) at_42 (i := 1) rfl (mem (i := 23) rfl) (mem (i := 24) rfl) (mem (i := 26) rfl) (mem (i := 25) rfl) (mem (i := 2) rfl) (mem (i := 27) rfl) (by decide) pd_5 rfl (rest := []) rfl rfl (by decide) (Nat.le_of_ble_eq_true rfl) (cn' := 3) (sn' := 10) rfl rfl (by decide) (by decide) (pc' := 45) rfl (fun _ _ hq => ?_)
    obtain ⟨na1, ns1, F1, p1, k1, t1', rfl, rfl⟩ := hq
    show Go Z k 3 10 ((na1, ArI Z .int ns1) :: (a1, Obj Z "com/example/thorough_paths/thoroughpaths/service/Nodes" [("com/example/thorough_paths/thoroughpaths/service/Nodes", "size", "I", (.int (1 : Nat).toInt32)), ("com/example/thorough_paths/thoroughpaths/service/Nodes", "numbers", "[I", (.ref na1))]) :: F1) 45 #[.val (.int i0), .val (.int i1), .val (.int i2), .val (.int i3), .val (.int i4), .val (.int cp), .val (.int (1 : Int32)), .val (.int (2 : Int32)), .val (.ref a1), .unset, .unset] []
    have t1 : ns1.take 1 = ([i1] : List Int32) := t1'
    refine s_iload H at_45 rfl (pc' := 47) rfl ?_
    refine s_iconst H at_47 (z := (2 : Int32)) (by decide) (pc' := 48) rfl ?_
    refine s_icmp H at_48 (py := 57) (pc' := 51) q_lt (by decide) rfl (fun c48 => ?_) (fun c48 => ?_)
    · refine s_iload H at_57 rfl (pc' := 59) rfl ?_
      refine s_iconst H at_59 (z := (3 : Int32)) (by decide) (pc' := 60) rfl ?_
      refine s_icmp H at_60 (py := 69) (pc' := 63) q_lt (by decide) rfl (fun c60 => ?_) (fun c60 => ?_)
      · refine s_iload H at_69 rfl (pc' := 71) rfl ?_
        refine s_if H at_71 (py := 80) (pc' := 74) z_ne (by decide) rfl (fun c71 => ?_) (fun c71 => ?_)
        · refine s_iload H at_80 rfl (pc' := 82) rfl ?_
          refine s_iconst H at_82 (z := (1 : Int32)) (by decide) (pc' := 83) rfl ?_
          refine s_icmp H at_83 (py := 92) (pc' := 86) q_ne (by decide) rfl (fun c83 => ?_) (fun c83 => ?_)
          · refine s_iload H at_92 rfl (pc' := 94) rfl ?_
            refine s_iconst H at_94 (z := (2 : Int32)) (by decide) (pc' := 95) rfl ?_
            refine s_icmp H at_95 (py := 104) (pc' := 98) q_ne (by decide) rfl (fun c95 => ?_) (fun c95 => ?_)
            · exact absurd c95 (by decide)
            · refine s_iloadn H at_98 rfl (pc' := 99) rfl ?_
              refine s_istore H at_99 (L' := fun z => #[.val (.int i0), .val (.int i1), .val (.int i2), .val (.int i3), .val (.int i4), .val (.int cp), .val (.int (1 : Int32)), .val (.int (2 : Int32)), .val (.ref a1), .val (.int z), .unset]) (fun _ => rfl) (pc' := 101) rfl (fun z0 hz => ?_)
              subst z0
              refine s_goto H at_101 (pc' := 108) (by decide) ?_
              refine s_iload H at_108 rfl (pc' := 110) rfl ?_
              refine s_iconst H at_110 (z := (1 : Int32)) (by decide) (pc' := 111) rfl ?_
              refine s_icmp H at_111 (py := 120) (pc' := 114) q_lt (by decide) rfl (fun c111 => ?_) (fun c111 => ?_)
              · exact absurd c111 (by decide)
              · refine s_iloadn H at_114 rfl (pc' := 115) rfl ?_
                refine s_iload H at_115 rfl (pc' := 117) rfl ?_
                refine s_icmp H at_117 (py := 144) (pc' := 120) q_eq (by decide) rfl (fun c117 => ?_) (fun c117 => ?_)
                · refine s_iconst H at_144 (z := (1 : Int32)) (by decide) (pc' := 145) rfl ?_
                  refine s_goto H at_145 (pc' := 149) (by decide) ?_
                  refine s_istore H at_149 (L' := fun z => #[.val (.int i0), .val (.int i1), .val (.int i2), .val (.int i3), .val (.int i4), .val (.int cp), .val (.int (1 : Int32)), .val (.int (2 : Int32)), .val (.ref a1), .val (.int i3), .val (.int z)]) (fun _ => rfl) (pc' := 151) rfl (fun z0 hz => ?_)
                  subst z0
                  refine s_aload H at_151 rfl rfl (pc' := 153) rfl ?_
                  refine s_iload H at_153 rfl (pc' := 155) rfl ?_
                  refine s_virtual H (met_nc H.tb a1 na1 ns1 1 i3 p1 k1) at_155 (i := 1) rfl (mem (i := 18) rfl) (mem (i := 19) rfl) (mem (i := 21) rfl) (mem (i := 20) rfl) (mem (i := 2) rfl) (mem (i := 22) rfl) (by decide) pd_4 rfl (rest := []) rfl rfl (by decide) (Nat.le_of_ble_eq_true rfl) (cn' := 3) (sn' := 10) rfl rfl (by decide) (by decide) (pc' := 158) rfl (fun _ _ hq => ?_)
                  obtain ⟨rfl, rfl⟩ := hq
                  show Go Z k 3 10 ((na1, ArI Z .int ns1) :: (a1, Obj Z "com/example/thorough_paths/thoroughpaths/service/Nodes" [("com/example/thorough_paths/thoroughpaths/service/Nodes", "size", "I", (.int (1 : Nat).toInt32)), ("com/example/thorough_paths/thoroughpaths/service/Nodes", "numbers", "[I", (.ref na1))]) :: F1) 158 #[.val (.int i0), .val (.int i1), .val (.int i2), .val (.int i3), .val (.int i4), .val (.int cp), .val (.int (1 : Int32)), .val (.int (2 : Int32)), .val (.ref a1), .val (.int i3), .val (.int (1 : Int32))] [(.int (if i3 ∈ ns1.take 1 then 1 else 0))]
                  rw [t1]
                  refine s_iload H at_158 rfl (pc' := 160) rfl ?_
                  refine s_icmp H at_160 (py := 167) (pc' := 163) q_ne (by decide) rfl (fun c160 => ?_) (fun c160 => ?_)
                  · refine s_iconst H at_167 (z := (0 : Int32)) (by decide) (pc' := 168) rfl ?_
                    exfalso
                    clear t0 t1 t1'
                    simp_all [eq_comm]
                  · refine s_iconst H at_163 (z := (1 : Int32)) (by decide) (pc' := 164) rfl ?_
                    refine s_goto H at_164 (pc' := 168) (by decide) ?_
                    exact s_iret H at_168 rfl (by simp) (by decide) (by decide) (rfl)
                · refine s_iload H at_120 rfl (pc' := 122) rfl ?_
                  refine s_iconst H at_122 (z := (2 : Int32)) (by decide) (pc' := 123) rfl ?_
                  refine s_icmp H at_123 (py := 132) (pc' := 126) q_lt (by decide) rfl (fun c123 => ?_) (fun c123 => ?_)
                  · refine s_iload H at_132 rfl (pc' := 134) rfl ?_
                    refine s_iconst H at_134 (z := (3 : Int32)) (by decide) (pc' := 135) rfl ?_
                    refine s_icmp H at_135 (py := 148) (pc' := 138) q_lt (by decide) rfl (fun c135 => ?_) (fun c135 => ?_)
                    · refine s_iconst H at_148 (z := (0 : Int32)) (by decide) (pc' := 149) rfl ?_
                      refine s_istore H at_149 (L' := fun z => #[.val (.int i0), .val (.int i1), .val (.int i2), .val (.int i3), .val (.int i4), .val (.int cp), .val (.int (1 : Int32)), .val (.int (2 : Int32)), .val (.ref a1), .val (.int i3), .val (.int z)]) (fun _ => rfl) (pc' := 151) rfl (fun z0 hz => ?_)
                      subst z0
                      refine s_aload H at_151 rfl rfl (pc' := 153) rfl ?_
                      refine s_iload H at_153 rfl (pc' := 155) rfl ?_
                      refine s_virtual H (met_nc H.tb a1 na1 ns1 1 i3 p1 k1) at_155 (i := 1) rfl (mem (i := 18) rfl) (mem (i := 19) rfl) (mem (i := 21) rfl) (mem (i := 20) rfl) (mem (i := 2) rfl) (mem (i := 22) rfl) (by decide) pd_4 rfl (rest := []) rfl rfl (by decide) (Nat.le_of_ble_eq_true rfl) (cn' := 3) (sn' := 10) rfl rfl (by decide) (by decide) (pc' := 158) rfl (fun _ _ hq => ?_)
                      obtain ⟨rfl, rfl⟩ := hq
                      show Go Z k 3 10 ((na1, ArI Z .int ns1) :: (a1, Obj Z "com/example/thorough_paths/thoroughpaths/service/Nodes" [("com/example/thorough_paths/thoroughpaths/service/Nodes", "size", "I", (.int (1 : Nat).toInt32)), ("com/example/thorough_paths/thoroughpaths/service/Nodes", "numbers", "[I", (.ref na1))]) :: F1) 158 #[.val (.int i0), .val (.int i1), .val (.int i2), .val (.int i3), .val (.int i4), .val (.int cp), .val (.int (1 : Int32)), .val (.int (2 : Int32)), .val (.ref a1), .val (.int i3), .val (.int (0 : Int32))] [(.int (if i3 ∈ ns1.take 1 then 1 else 0))]
                      rw [t1]
                      refine s_iload H at_158 rfl (pc' := 160) rfl ?_
                      refine s_icmp H at_160 (py := 167) (pc' := 163) q_ne (by decide) rfl (fun c160 => ?_) (fun c160 => ?_)
                      · refine s_iconst H at_167 (z := (0 : Int32)) (by decide) (pc' := 168) rfl ?_
                        exfalso
                        clear t0 t1 t1'
                        simp_all [eq_comm]
                      · refine s_iconst H at_163 (z := (1 : Int32)) (by decide) (pc' := 164) rfl ?_
                        refine s_goto H at_164 (pc' := 168) (by decide) ?_
                        exact s_iret H at_168 rfl (by simp) (by decide) (by decide) (rfl)
                    · exact absurd c135 (by decide)
                  · exact absurd c123 (by decide)
          · exact absurd c83 (by decide)
        · exact absurd c71 (by decide)
      · exact absurd c60 (by decide)
    · exact absurd c48 (by decide)
set_option maxRecDepth 65536 in
set_option maxHeartbeats 40000000 in
theorem s22_1_3 {Z : State} {k : Cx} {i0 i1 i2 i3 i4 cp : Int32} (N0 : Nat) (H : Ok Z k room_1 (LQ) x code maxLocals ret) (hN : (N0 : Int) = max cp.toInt 1) (hN4 : N0 ≤ 4) : Go Z k 0 0 ([] : Hp) 22 #[.val (.int i0), .val (.int i1), .val (.int i2), .val (.int i3), .val (.int i4), .val (.int cp), .val (.int (1 : Int32)), .val (.int (3 : Int32)), .unset, .unset, .unset] [] := by
  refine s_new H (C := "com/example/thorough_paths/thoroughpaths/service/Nodes") [("com/example/thorough_paths/thoroughpaths/service/Nodes", "size", "I", (.int (0 : Int32))), ("com/example/thorough_paths/thoroughpaths/service/Nodes", "numbers", "[I", .null)] at_22 (mem (i := 0) rfl) (mem (i := 1) rfl) (mem (i := 2) rfl) (allC ⟨Or.inl (mem (i := 10) rfl), .int, by decide, rfl⟩ (allC ⟨Or.inl (mem (i := 17) rfl), (.array .int), by decide, rfl⟩ allN)) (by decide) (cn' := 1) (sn' := 2) rfl rfl (by decide) (by decide) (pc' := 25) rfl (fun a1 => ?_)
  refine s_dup H at_25 rfl (pc' := 26) rfl ?_
  refine s_iload H at_26 rfl (pc' := 28) rfl ?_
  refine s_init H (met_ni H.tb a1 cp N0 hN hN4) at_28 rfl (mem (i := 3) rfl) (mem (i := 4) rfl) (mem (i := 2) rfl) (mem (i := 5) rfl) (by decide) pd_1 rfl (rest := [(.ref a1)]) rfl rfl (by decide) (Nat.le_of_ble_eq_true rfl) (cn' := 2) (sn' := 6) rfl rfl (by decide) (by decide) (pc' := 31) rfl (fun _ _ hq => ?_)
  obtain ⟨na0, rfl, rfl⟩ := hq
  show Go Z k 2 6 ((na0, ArI Z .int (List.replicate N0 0)) :: (a1, Obj Z "com/example/thorough_paths/thoroughpaths/service/Nodes" [("com/example/thorough_paths/thoroughpaths/service/Nodes", "size", "I", (.int (0 : Nat).toInt32)), ("com/example/thorough_paths/thoroughpaths/service/Nodes", "numbers", "[I", (.ref na0))]) :: []) 31 #[.val (.int i0), .val (.int i1), .val (.int i2), .val (.int i3), .val (.int i4), .val (.int cp), .val (.int (1 : Int32)), .val (.int (3 : Int32)), .unset, .unset, .unset] [(.ref a1)]
  obtain ⟨ns0, he, l0⟩ : ∃ ns : List Int32, ns = List.replicate N0 0 ∧ ns.length = N0 := ⟨_, rfl, by simp⟩
  rw [← he]
  clear he
  have p0 : 0 ≤ ns0.length := Nat.zero_le _
  have k0 : ns0.length ≤ 100 := by omega
  have t0 : ns0.take 0 = [] := rfl
  show Go Z k 2 6 ((na0, ArI Z .int ns0) :: (a1, Obj Z "com/example/thorough_paths/thoroughpaths/service/Nodes" [("com/example/thorough_paths/thoroughpaths/service/Nodes", "size", "I", (.int (0 : Nat).toInt32)), ("com/example/thorough_paths/thoroughpaths/service/Nodes", "numbers", "[I", (.ref na0))]) :: []) 31 #[.val (.int i0), .val (.int i1), .val (.int i2), .val (.int i3), .val (.int i4), .val (.int cp), .val (.int (1 : Int32)), .val (.int (3 : Int32)), .unset, .unset, .unset] [(.ref a1)]
  refine s_astore H at_31 (L' := #[.val (.int i0), .val (.int i1), .val (.int i2), .val (.int i3), .val (.int i4), .val (.int cp), .val (.int (1 : Int32)), .val (.int (3 : Int32)), .val (.ref a1), .unset, .unset]) rfl rfl (pc' := 33) rfl ?_
  refine s_iload H at_33 rfl (pc' := 35) rfl ?_
  refine s_iconst H at_35 (z := (1 : Int32)) (by decide) (pc' := 36) rfl ?_
  refine s_icmp H at_36 (py := 45) (pc' := 39) q_lt (by decide) rfl (fun c36 => ?_) (fun c36 => ?_)
  · exact absurd c36 (by decide)
  · refine s_aload H at_39 rfl rfl (pc' := 41) rfl ?_
    refine s_iloadn H at_41 rfl (pc' := 42) rfl ?_
    refine s_virtual H (met_na H.tb a1 na0 ns0 ([] : List Int32) 0 i1 p0 (by decide) k0 t0) at_42 (i := 1) rfl (mem (i := 23) rfl) (mem (i := 24) rfl) (mem (i := 26) rfl) (mem (i := 25) rfl) (mem (i := 2) rfl) (mem (i := 27) rfl) (by decide) pd_5 rfl (rest := []) rfl rfl (by decide) (Nat.le_of_ble_eq_true rfl) (cn' := 3) (sn' := 10) rfl rfl (by decide) (by decide) (pc' := 45) rfl (fun _ _ hq => ?_)
    obtain ⟨na1, ns1, F1, p1, k1, t1', rfl, rfl⟩ := hq
    show Go Z k 3 10 ((na1, ArI Z .int ns1) :: (a1, Obj Z "com/example/thorough_paths/thoroughpaths/service/Nodes" [("com/example/thorough_paths/thoroughpaths/service/Nodes", "size", "I", (.int (1 : Nat).toInt32)), ("com/example/thorough_paths/thoroughpaths/service/Nodes", "numbers", "[I", (.ref na1))]) :: F1) 45 #[.val (.int i0), .val (.int i1), .val (.int i2), .val (.int i3), .val (.int i4), .val (.int cp), .val (.int (1 : Int32)), .val (.int (3 : Int32)), .val (.ref a1), .unset, .unset] []
    have t1 : ns1.take 1 = ([i1] : List Int32) := t1'
    refine s_iload H at_45 rfl (pc' := 47) rfl ?_
    refine s_iconst H at_47 (z := (2 : Int32)) (by decide) (pc' := 48) rfl ?_
    refine s_icmp H at_48 (py := 57) (pc' := 51) q_lt (by decide) rfl (fun c48 => ?_) (fun c48 => ?_)
    · refine s_iload H at_57 rfl (pc' := 59) rfl ?_
      refine s_iconst H at_59 (z := (3 : Int32)) (by decide) (pc' := 60) rfl ?_
      refine s_icmp H at_60 (py := 69) (pc' := 63) q_lt (by decide) rfl (fun c60 => ?_) (fun c60 => ?_)
      · refine s_iload H at_69 rfl (pc' := 71) rfl ?_
        refine s_if H at_71 (py := 80) (pc' := 74) z_ne (by decide) rfl (fun c71 => ?_) (fun c71 => ?_)
        · refine s_iload H at_80 rfl (pc' := 82) rfl ?_
          refine s_iconst H at_82 (z := (1 : Int32)) (by decide) (pc' := 83) rfl ?_
          refine s_icmp H at_83 (py := 92) (pc' := 86) q_ne (by decide) rfl (fun c83 => ?_) (fun c83 => ?_)
          · refine s_iload H at_92 rfl (pc' := 94) rfl ?_
            refine s_iconst H at_94 (z := (2 : Int32)) (by decide) (pc' := 95) rfl ?_
            refine s_icmp H at_95 (py := 104) (pc' := 98) q_ne (by decide) rfl (fun c95 => ?_) (fun c95 => ?_)
            · refine s_iload H at_104 rfl (pc' := 106) rfl ?_
              refine s_istore H at_106 (L' := fun z => #[.val (.int i0), .val (.int i1), .val (.int i2), .val (.int i3), .val (.int i4), .val (.int cp), .val (.int (1 : Int32)), .val (.int (3 : Int32)), .val (.ref a1), .val (.int z), .unset]) (fun _ => rfl) (pc' := 108) rfl (fun z0 hz => ?_)
              subst z0
              refine s_iload H at_108 rfl (pc' := 110) rfl ?_
              refine s_iconst H at_110 (z := (1 : Int32)) (by decide) (pc' := 111) rfl ?_
              refine s_icmp H at_111 (py := 120) (pc' := 114) q_lt (by decide) rfl (fun c111 => ?_) (fun c111 => ?_)
              · exact absurd c111 (by decide)
              · refine s_iloadn H at_114 rfl (pc' := 115) rfl ?_
                refine s_iload H at_115 rfl (pc' := 117) rfl ?_
                refine s_icmp H at_117 (py := 144) (pc' := 120) q_eq (by decide) rfl (fun c117 => ?_) (fun c117 => ?_)
                · refine s_iconst H at_144 (z := (1 : Int32)) (by decide) (pc' := 145) rfl ?_
                  refine s_goto H at_145 (pc' := 149) (by decide) ?_
                  refine s_istore H at_149 (L' := fun z => #[.val (.int i0), .val (.int i1), .val (.int i2), .val (.int i3), .val (.int i4), .val (.int cp), .val (.int (1 : Int32)), .val (.int (3 : Int32)), .val (.ref a1), .val (.int i4), .val (.int z)]) (fun _ => rfl) (pc' := 151) rfl (fun z0 hz => ?_)
                  subst z0
                  refine s_aload H at_151 rfl rfl (pc' := 153) rfl ?_
                  refine s_iload H at_153 rfl (pc' := 155) rfl ?_
                  refine s_virtual H (met_nc H.tb a1 na1 ns1 1 i4 p1 k1) at_155 (i := 1) rfl (mem (i := 18) rfl) (mem (i := 19) rfl) (mem (i := 21) rfl) (mem (i := 20) rfl) (mem (i := 2) rfl) (mem (i := 22) rfl) (by decide) pd_4 rfl (rest := []) rfl rfl (by decide) (Nat.le_of_ble_eq_true rfl) (cn' := 3) (sn' := 10) rfl rfl (by decide) (by decide) (pc' := 158) rfl (fun _ _ hq => ?_)
                  obtain ⟨rfl, rfl⟩ := hq
                  show Go Z k 3 10 ((na1, ArI Z .int ns1) :: (a1, Obj Z "com/example/thorough_paths/thoroughpaths/service/Nodes" [("com/example/thorough_paths/thoroughpaths/service/Nodes", "size", "I", (.int (1 : Nat).toInt32)), ("com/example/thorough_paths/thoroughpaths/service/Nodes", "numbers", "[I", (.ref na1))]) :: F1) 158 #[.val (.int i0), .val (.int i1), .val (.int i2), .val (.int i3), .val (.int i4), .val (.int cp), .val (.int (1 : Int32)), .val (.int (3 : Int32)), .val (.ref a1), .val (.int i4), .val (.int (1 : Int32))] [(.int (if i4 ∈ ns1.take 1 then 1 else 0))]
                  rw [t1]
                  refine s_iload H at_158 rfl (pc' := 160) rfl ?_
                  refine s_icmp H at_160 (py := 167) (pc' := 163) q_ne (by decide) rfl (fun c160 => ?_) (fun c160 => ?_)
                  · refine s_iconst H at_167 (z := (0 : Int32)) (by decide) (pc' := 168) rfl ?_
                    exfalso
                    clear t0 t1 t1'
                    simp_all [eq_comm]
                  · refine s_iconst H at_163 (z := (1 : Int32)) (by decide) (pc' := 164) rfl ?_
                    refine s_goto H at_164 (pc' := 168) (by decide) ?_
                    exact s_iret H at_168 rfl (by simp) (by decide) (by decide) (rfl)
                · refine s_iload H at_120 rfl (pc' := 122) rfl ?_
                  refine s_iconst H at_122 (z := (2 : Int32)) (by decide) (pc' := 123) rfl ?_
                  refine s_icmp H at_123 (py := 132) (pc' := 126) q_lt (by decide) rfl (fun c123 => ?_) (fun c123 => ?_)
                  · refine s_iload H at_132 rfl (pc' := 134) rfl ?_
                    refine s_iconst H at_134 (z := (3 : Int32)) (by decide) (pc' := 135) rfl ?_
                    refine s_icmp H at_135 (py := 148) (pc' := 138) q_lt (by decide) rfl (fun c135 => ?_) (fun c135 => ?_)
                    · refine s_iconst H at_148 (z := (0 : Int32)) (by decide) (pc' := 149) rfl ?_
                      refine s_istore H at_149 (L' := fun z => #[.val (.int i0), .val (.int i1), .val (.int i2), .val (.int i3), .val (.int i4), .val (.int cp), .val (.int (1 : Int32)), .val (.int (3 : Int32)), .val (.ref a1), .val (.int i4), .val (.int z)]) (fun _ => rfl) (pc' := 151) rfl (fun z0 hz => ?_)
                      subst z0
                      refine s_aload H at_151 rfl rfl (pc' := 153) rfl ?_
                      refine s_iload H at_153 rfl (pc' := 155) rfl ?_
                      refine s_virtual H (met_nc H.tb a1 na1 ns1 1 i4 p1 k1) at_155 (i := 1) rfl (mem (i := 18) rfl) (mem (i := 19) rfl) (mem (i := 21) rfl) (mem (i := 20) rfl) (mem (i := 2) rfl) (mem (i := 22) rfl) (by decide) pd_4 rfl (rest := []) rfl rfl (by decide) (Nat.le_of_ble_eq_true rfl) (cn' := 3) (sn' := 10) rfl rfl (by decide) (by decide) (pc' := 158) rfl (fun _ _ hq => ?_)
                      obtain ⟨rfl, rfl⟩ := hq
                      show Go Z k 3 10 ((na1, ArI Z .int ns1) :: (a1, Obj Z "com/example/thorough_paths/thoroughpaths/service/Nodes" [("com/example/thorough_paths/thoroughpaths/service/Nodes", "size", "I", (.int (1 : Nat).toInt32)), ("com/example/thorough_paths/thoroughpaths/service/Nodes", "numbers", "[I", (.ref na1))]) :: F1) 158 #[.val (.int i0), .val (.int i1), .val (.int i2), .val (.int i3), .val (.int i4), .val (.int cp), .val (.int (1 : Int32)), .val (.int (3 : Int32)), .val (.ref a1), .val (.int i4), .val (.int (0 : Int32))] [(.int (if i4 ∈ ns1.take 1 then 1 else 0))]
                      rw [t1]
                      refine s_iload H at_158 rfl (pc' := 160) rfl ?_
                      refine s_icmp H at_160 (py := 167) (pc' := 163) q_ne (by decide) rfl (fun c160 => ?_) (fun c160 => ?_)
                      · refine s_iconst H at_167 (z := (0 : Int32)) (by decide) (pc' := 168) rfl ?_
                        exfalso
                        clear t0 t1 t1'
                        simp_all [eq_comm]
                      · refine s_iconst H at_163 (z := (1 : Int32)) (by decide) (pc' := 164) rfl ?_
                        refine s_goto H at_164 (pc' := 168) (by decide) ?_
                        exact s_iret H at_168 rfl (by simp) (by decide) (by decide) (rfl)
                    · exact absurd c135 (by decide)
                  · exact absurd c123 (by decide)
            · exact absurd c95 (by decide)
          · exact absurd c83 (by decide)
        · exact absurd c71 (by decide)
      · exact absurd c60 (by decide)
    · exact absurd c48 (by decide)
set_option maxRecDepth 65536 in
set_option maxHeartbeats 40000000 in
theorem s22_2_0 {Z : State} {k : Cx} {i0 i1 i2 i3 i4 cp : Int32} (N0 : Nat) (H : Ok Z k room_1 (LQ) x code maxLocals ret) (hN : (N0 : Int) = max cp.toInt 1) (hN4 : N0 ≤ 4) : Go Z k 0 0 ([] : Hp) 22 #[.val (.int i0), .val (.int i1), .val (.int i2), .val (.int i3), .val (.int i4), .val (.int cp), .val (.int (2 : Int32)), .val (.int (0 : Int32)), .unset, .unset, .unset] [] := by
  refine s_new H (C := "com/example/thorough_paths/thoroughpaths/service/Nodes") [("com/example/thorough_paths/thoroughpaths/service/Nodes", "size", "I", (.int (0 : Int32))), ("com/example/thorough_paths/thoroughpaths/service/Nodes", "numbers", "[I", .null)] at_22 (mem (i := 0) rfl) (mem (i := 1) rfl) (mem (i := 2) rfl) (allC ⟨Or.inl (mem (i := 10) rfl), .int, by decide, rfl⟩ (allC ⟨Or.inl (mem (i := 17) rfl), (.array .int), by decide, rfl⟩ allN)) (by decide) (cn' := 1) (sn' := 2) rfl rfl (by decide) (by decide) (pc' := 25) rfl (fun a1 => ?_)
  refine s_dup H at_25 rfl (pc' := 26) rfl ?_
  refine s_iload H at_26 rfl (pc' := 28) rfl ?_
  refine s_init H (met_ni H.tb a1 cp N0 hN hN4) at_28 rfl (mem (i := 3) rfl) (mem (i := 4) rfl) (mem (i := 2) rfl) (mem (i := 5) rfl) (by decide) pd_1 rfl (rest := [(.ref a1)]) rfl rfl (by decide) (Nat.le_of_ble_eq_true rfl) (cn' := 2) (sn' := 6) rfl rfl (by decide) (by decide) (pc' := 31) rfl (fun _ _ hq => ?_)
  obtain ⟨na0, rfl, rfl⟩ := hq
  show Go Z k 2 6 ((na0, ArI Z .int (List.replicate N0 0)) :: (a1, Obj Z "com/example/thorough_paths/thoroughpaths/service/Nodes" [("com/example/thorough_paths/thoroughpaths/service/Nodes", "size", "I", (.int (0 : Nat).toInt32)), ("com/example/thorough_paths/thoroughpaths/service/Nodes", "numbers", "[I", (.ref na0))]) :: []) 31 #[.val (.int i0), .val (.int i1), .val (.int i2), .val (.int i3), .val (.int i4), .val (.int cp), .val (.int (2 : Int32)), .val (.int (0 : Int32)), .unset, .unset, .unset] [(.ref a1)]
  obtain ⟨ns0, he, l0⟩ : ∃ ns : List Int32, ns = List.replicate N0 0 ∧ ns.length = N0 := ⟨_, rfl, by simp⟩
  rw [← he]
  clear he
  have p0 : 0 ≤ ns0.length := Nat.zero_le _
  have k0 : ns0.length ≤ 100 := by omega
  have t0 : ns0.take 0 = [] := rfl
  show Go Z k 2 6 ((na0, ArI Z .int ns0) :: (a1, Obj Z "com/example/thorough_paths/thoroughpaths/service/Nodes" [("com/example/thorough_paths/thoroughpaths/service/Nodes", "size", "I", (.int (0 : Nat).toInt32)), ("com/example/thorough_paths/thoroughpaths/service/Nodes", "numbers", "[I", (.ref na0))]) :: []) 31 #[.val (.int i0), .val (.int i1), .val (.int i2), .val (.int i3), .val (.int i4), .val (.int cp), .val (.int (2 : Int32)), .val (.int (0 : Int32)), .unset, .unset, .unset] [(.ref a1)]
  refine s_astore H at_31 (L' := #[.val (.int i0), .val (.int i1), .val (.int i2), .val (.int i3), .val (.int i4), .val (.int cp), .val (.int (2 : Int32)), .val (.int (0 : Int32)), .val (.ref a1), .unset, .unset]) rfl rfl (pc' := 33) rfl ?_
  refine s_iload H at_33 rfl (pc' := 35) rfl ?_
  refine s_iconst H at_35 (z := (1 : Int32)) (by decide) (pc' := 36) rfl ?_
  refine s_icmp H at_36 (py := 45) (pc' := 39) q_lt (by decide) rfl (fun c36 => ?_) (fun c36 => ?_)
  · exact absurd c36 (by decide)
  · refine s_aload H at_39 rfl rfl (pc' := 41) rfl ?_
    refine s_iloadn H at_41 rfl (pc' := 42) rfl ?_
    refine s_virtual H (met_na H.tb a1 na0 ns0 ([] : List Int32) 0 i1 p0 (by decide) k0 t0) at_42 (i := 1) rfl (mem (i := 23) rfl) (mem (i := 24) rfl) (mem (i := 26) rfl) (mem (i := 25) rfl) (mem (i := 2) rfl) (mem (i := 27) rfl) (by decide) pd_5 rfl (rest := []) rfl rfl (by decide) (Nat.le_of_ble_eq_true rfl) (cn' := 3) (sn' := 10) rfl rfl (by decide) (by decide) (pc' := 45) rfl (fun _ _ hq => ?_)
    obtain ⟨na1, ns1, F1, p1, k1, t1', rfl, rfl⟩ := hq
    show Go Z k 3 10 ((na1, ArI Z .int ns1) :: (a1, Obj Z "com/example/thorough_paths/thoroughpaths/service/Nodes" [("com/example/thorough_paths/thoroughpaths/service/Nodes", "size", "I", (.int (1 : Nat).toInt32)), ("com/example/thorough_paths/thoroughpaths/service/Nodes", "numbers", "[I", (.ref na1))]) :: F1) 45 #[.val (.int i0), .val (.int i1), .val (.int i2), .val (.int i3), .val (.int i4), .val (.int cp), .val (.int (2 : Int32)), .val (.int (0 : Int32)), .val (.ref a1), .unset, .unset] []
    have t1 : ns1.take 1 = ([i1] : List Int32) := t1'
    refine s_iload H at_45 rfl (pc' := 47) rfl ?_
    refine s_iconst H at_47 (z := (2 : Int32)) (by decide) (pc' := 48) rfl ?_
    refine s_icmp H at_48 (py := 57) (pc' := 51) q_lt (by decide) rfl (fun c48 => ?_) (fun c48 => ?_)
    · exact absurd c48 (by decide)
    · refine s_aload H at_51 rfl rfl (pc' := 53) rfl ?_
      refine s_iloadn H at_53 rfl (pc' := 54) rfl ?_
      refine s_virtual H (met_na H.tb a1 na1 ns1 ([i1] : List Int32) 1 i2 p1 (by decide) k1 t1) at_54 (i := 1) rfl (mem (i := 23) rfl) (mem (i := 24) rfl) (mem (i := 26) rfl) (mem (i := 25) rfl) (mem (i := 2) rfl) (mem (i := 27) rfl) (by decide) pd_5 rfl (rest := []) rfl rfl (by decide) (Nat.le_of_ble_eq_true rfl) (cn' := 4) (sn' := 14) rfl rfl (by decide) (by decide) (pc' := 57) rfl (fun _ _ hq => ?_)
      obtain ⟨na2, ns2, F2, p2, k2, t2', rfl, rfl⟩ := hq
      show Go Z k 4 14 ((na2, ArI Z .int ns2) :: (a1, Obj Z "com/example/thorough_paths/thoroughpaths/service/Nodes" [("com/example/thorough_paths/thoroughpaths/service/Nodes", "size", "I", (.int (2 : Nat).toInt32)), ("com/example/thorough_paths/thoroughpaths/service/Nodes", "numbers", "[I", (.ref na2))]) :: F2) 57 #[.val (.int i0), .val (.int i1), .val (.int i2), .val (.int i3), .val (.int i4), .val (.int cp), .val (.int (2 : Int32)), .val (.int (0 : Int32)), .val (.ref a1), .unset, .unset] []
      have t2 : ns2.take 2 = ([i1, i2] : List Int32) := t2'
      refine s_iload H at_57 rfl (pc' := 59) rfl ?_
      refine s_iconst H at_59 (z := (3 : Int32)) (by decide) (pc' := 60) rfl ?_
      refine s_icmp H at_60 (py := 69) (pc' := 63) q_lt (by decide) rfl (fun c60 => ?_) (fun c60 => ?_)
      · refine s_iload H at_69 rfl (pc' := 71) rfl ?_
        refine s_if H at_71 (py := 80) (pc' := 74) z_ne (by decide) rfl (fun c71 => ?_) (fun c71 => ?_)
        · exact absurd c71 (by decide)
        · refine s_iloadn H at_74 rfl (pc' := 75) rfl ?_
          refine s_istore H at_75 (L' := fun z => #[.val (.int i0), .val (.int i1), .val (.int i2), .val (.int i3), .val (.int i4), .val (.int cp), .val (.int (2 : Int32)), .val (.int (0 : Int32)), .val (.ref a1), .val (.int z), .unset]) (fun _ => rfl) (pc' := 77) rfl (fun z0 hz => ?_)
          subst z0
          refine s_goto H at_77 (pc' := 108) (by decide) ?_
          refine s_iload H at_108 rfl (pc' := 110) rfl ?_
          refine s_iconst H at_110 (z := (1 : Int32)) (by decide) (pc' := 111) rfl ?_
          refine s_icmp H at_111 (py := 120) (pc' := 114) q_lt (by decide) rfl (fun c111 => ?_) (fun c111 => ?_)
          · exact absurd c111 (by decide)
          · refine s_iloadn H at_114 rfl (pc' := 115) rfl ?_
            refine s_iload H at_115 rfl (pc' := 117) rfl ?_
            refine s_icmp H at_117 (py := 144) (pc' := 120) q_eq (by decide) rfl (fun c117 => ?_) (fun c117 => ?_)
            · refine s_iconst H at_144 (z := (1 : Int32)) (by decide) (pc' := 145) rfl ?_
              refine s_goto H at_145 (pc' := 149) (by decide) ?_
              refine s_istore H at_149 (L' := fun z => #[.val (.int i0), .val (.int i1), .val (.int i2), .val (.int i3), .val (.int i4), .val (.int cp), .val (.int (2 : Int32)), .val (.int (0 : Int32)), .val (.ref a1), .val (.int i1), .val (.int z)]) (fun _ => rfl) (pc' := 151) rfl (fun z0 hz => ?_)
              subst z0
              refine s_aload H at_151 rfl rfl (pc' := 153) rfl ?_
              refine s_iload H at_153 rfl (pc' := 155) rfl ?_
              refine s_virtual H (met_nc H.tb a1 na2 ns2 2 i1 p2 k2) at_155 (i := 1) rfl (mem (i := 18) rfl) (mem (i := 19) rfl) (mem (i := 21) rfl) (mem (i := 20) rfl) (mem (i := 2) rfl) (mem (i := 22) rfl) (by decide) pd_4 rfl (rest := []) rfl rfl (by decide) (Nat.le_of_ble_eq_true rfl) (cn' := 4) (sn' := 14) rfl rfl (by decide) (by decide) (pc' := 158) rfl (fun _ _ hq => ?_)
              obtain ⟨rfl, rfl⟩ := hq
              show Go Z k 4 14 ((na2, ArI Z .int ns2) :: (a1, Obj Z "com/example/thorough_paths/thoroughpaths/service/Nodes" [("com/example/thorough_paths/thoroughpaths/service/Nodes", "size", "I", (.int (2 : Nat).toInt32)), ("com/example/thorough_paths/thoroughpaths/service/Nodes", "numbers", "[I", (.ref na2))]) :: F2) 158 #[.val (.int i0), .val (.int i1), .val (.int i2), .val (.int i3), .val (.int i4), .val (.int cp), .val (.int (2 : Int32)), .val (.int (0 : Int32)), .val (.ref a1), .val (.int i1), .val (.int (1 : Int32))] [(.int (if i1 ∈ ns2.take 2 then 1 else 0))]
              rw [t2]
              refine s_iload H at_158 rfl (pc' := 160) rfl ?_
              refine s_icmp H at_160 (py := 167) (pc' := 163) q_ne (by decide) rfl (fun c160 => ?_) (fun c160 => ?_)
              · refine s_iconst H at_167 (z := (0 : Int32)) (by decide) (pc' := 168) rfl ?_
                exfalso
                clear t0 t1 t1' t2 t2'
                simp_all [eq_comm]
              · refine s_iconst H at_163 (z := (1 : Int32)) (by decide) (pc' := 164) rfl ?_
                refine s_goto H at_164 (pc' := 168) (by decide) ?_
                exact s_iret H at_168 rfl (by simp) (by decide) (by decide) (rfl)
            · exact absurd rfl c117
      · exact absurd c60 (by decide)
set_option maxRecDepth 65536 in
set_option maxHeartbeats 40000000 in
theorem s22_2_1 {Z : State} {k : Cx} {i0 i1 i2 i3 i4 cp : Int32} (N0 : Nat) (H : Ok Z k room_1 (LQ) x code maxLocals ret) (hN : (N0 : Int) = max cp.toInt 1) (hN4 : N0 ≤ 4) : Go Z k 0 0 ([] : Hp) 22 #[.val (.int i0), .val (.int i1), .val (.int i2), .val (.int i3), .val (.int i4), .val (.int cp), .val (.int (2 : Int32)), .val (.int (1 : Int32)), .unset, .unset, .unset] [] := by
  refine s_new H (C := "com/example/thorough_paths/thoroughpaths/service/Nodes") [("com/example/thorough_paths/thoroughpaths/service/Nodes", "size", "I", (.int (0 : Int32))), ("com/example/thorough_paths/thoroughpaths/service/Nodes", "numbers", "[I", .null)] at_22 (mem (i := 0) rfl) (mem (i := 1) rfl) (mem (i := 2) rfl) (allC ⟨Or.inl (mem (i := 10) rfl), .int, by decide, rfl⟩ (allC ⟨Or.inl (mem (i := 17) rfl), (.array .int), by decide, rfl⟩ allN)) (by decide) (cn' := 1) (sn' := 2) rfl rfl (by decide) (by decide) (pc' := 25) rfl (fun a1 => ?_)
  refine s_dup H at_25 rfl (pc' := 26) rfl ?_
  refine s_iload H at_26 rfl (pc' := 28) rfl ?_
  refine s_init H (met_ni H.tb a1 cp N0 hN hN4) at_28 rfl (mem (i := 3) rfl) (mem (i := 4) rfl) (mem (i := 2) rfl) (mem (i := 5) rfl) (by decide) pd_1 rfl (rest := [(.ref a1)]) rfl rfl (by decide) (Nat.le_of_ble_eq_true rfl) (cn' := 2) (sn' := 6) rfl rfl (by decide) (by decide) (pc' := 31) rfl (fun _ _ hq => ?_)
  obtain ⟨na0, rfl, rfl⟩ := hq
  show Go Z k 2 6 ((na0, ArI Z .int (List.replicate N0 0)) :: (a1, Obj Z "com/example/thorough_paths/thoroughpaths/service/Nodes" [("com/example/thorough_paths/thoroughpaths/service/Nodes", "size", "I", (.int (0 : Nat).toInt32)), ("com/example/thorough_paths/thoroughpaths/service/Nodes", "numbers", "[I", (.ref na0))]) :: []) 31 #[.val (.int i0), .val (.int i1), .val (.int i2), .val (.int i3), .val (.int i4), .val (.int cp), .val (.int (2 : Int32)), .val (.int (1 : Int32)), .unset, .unset, .unset] [(.ref a1)]
  obtain ⟨ns0, he, l0⟩ : ∃ ns : List Int32, ns = List.replicate N0 0 ∧ ns.length = N0 := ⟨_, rfl, by simp⟩
  rw [← he]
  clear he
  have p0 : 0 ≤ ns0.length := Nat.zero_le _
  have k0 : ns0.length ≤ 100 := by omega
  have t0 : ns0.take 0 = [] := rfl
  show Go Z k 2 6 ((na0, ArI Z .int ns0) :: (a1, Obj Z "com/example/thorough_paths/thoroughpaths/service/Nodes" [("com/example/thorough_paths/thoroughpaths/service/Nodes", "size", "I", (.int (0 : Nat).toInt32)), ("com/example/thorough_paths/thoroughpaths/service/Nodes", "numbers", "[I", (.ref na0))]) :: []) 31 #[.val (.int i0), .val (.int i1), .val (.int i2), .val (.int i3), .val (.int i4), .val (.int cp), .val (.int (2 : Int32)), .val (.int (1 : Int32)), .unset, .unset, .unset] [(.ref a1)]
  refine s_astore H at_31 (L' := #[.val (.int i0), .val (.int i1), .val (.int i2), .val (.int i3), .val (.int i4), .val (.int cp), .val (.int (2 : Int32)), .val (.int (1 : Int32)), .val (.ref a1), .unset, .unset]) rfl rfl (pc' := 33) rfl ?_
  refine s_iload H at_33 rfl (pc' := 35) rfl ?_
  refine s_iconst H at_35 (z := (1 : Int32)) (by decide) (pc' := 36) rfl ?_
  refine s_icmp H at_36 (py := 45) (pc' := 39) q_lt (by decide) rfl (fun c36 => ?_) (fun c36 => ?_)
  · exact absurd c36 (by decide)
  · refine s_aload H at_39 rfl rfl (pc' := 41) rfl ?_
    refine s_iloadn H at_41 rfl (pc' := 42) rfl ?_
    refine s_virtual H (met_na H.tb a1 na0 ns0 ([] : List Int32) 0 i1 p0 (by decide) k0 t0) at_42 (i := 1) rfl (mem (i := 23) rfl) (mem (i := 24) rfl) (mem (i := 26) rfl) (mem (i := 25) rfl) (mem (i := 2) rfl) (mem (i := 27) rfl) (by decide) pd_5 rfl (rest := []) rfl rfl (by decide) (Nat.le_of_ble_eq_true rfl) (cn' := 3) (sn' := 10) rfl rfl (by decide) (by decide) (pc' := 45) rfl (fun _ _ hq => ?_)
    obtain ⟨na1, ns1, F1, p1, k1, t1', rfl, rfl⟩ := hq
    show Go Z k 3 10 ((na1, ArI Z .int ns1) :: (a1, Obj Z "com/example/thorough_paths/thoroughpaths/service/Nodes" [("com/example/thorough_paths/thoroughpaths/service/Nodes", "size", "I", (.int (1 : Nat).toInt32)), ("com/example/thorough_paths/thoroughpaths/service/Nodes", "numbers", "[I", (.ref na1))]) :: F1) 45 #[.val (.int i0), .val (.int i1), .val (.int i2), .val (.int i3), .val (.int i4), .val (.int cp), .val (.int (2 : Int32)), .val (.int (1 : Int32)), .val (.ref a1), .unset, .unset] []
    have t1 : ns1.take 1 = ([i1] : List Int32) := t1'
    refine s_iload H at_45 rfl (pc' := 47) rfl ?_
    refine s_iconst H at_47 (z := (2 : Int32)) (by decide) (pc' := 48) rfl ?_
    refine s_icmp H at_48 (py := 57) (pc' := 51) q_lt (by decide) rfl (fun c48 => ?_) (fun c48 => ?_)
    · exact absurd c48 (by decide)
    · refine s_aload H at_51 rfl rfl (pc' := 53) rfl ?_
      refine s_iloadn H at_53 rfl (pc' := 54) rfl ?_
      refine s_virtual H (met_na H.tb a1 na1 ns1 ([i1] : List Int32) 1 i2 p1 (by decide) k1 t1) at_54 (i := 1) rfl (mem (i := 23) rfl) (mem (i := 24) rfl) (mem (i := 26) rfl) (mem (i := 25) rfl) (mem (i := 2) rfl) (mem (i := 27) rfl) (by decide) pd_5 rfl (rest := []) rfl rfl (by decide) (Nat.le_of_ble_eq_true rfl) (cn' := 4) (sn' := 14) rfl rfl (by decide) (by decide) (pc' := 57) rfl (fun _ _ hq => ?_)
      obtain ⟨na2, ns2, F2, p2, k2, t2', rfl, rfl⟩ := hq
      show Go Z k 4 14 ((na2, ArI Z .int ns2) :: (a1, Obj Z "com/example/thorough_paths/thoroughpaths/service/Nodes" [("com/example/thorough_paths/thoroughpaths/service/Nodes", "size", "I", (.int (2 : Nat).toInt32)), ("com/example/thorough_paths/thoroughpaths/service/Nodes", "numbers", "[I", (.ref na2))]) :: F2) 57 #[.val (.int i0), .val (.int i1), .val (.int i2), .val (.int i3), .val (.int i4), .val (.int cp), .val (.int (2 : Int32)), .val (.int (1 : Int32)), .val (.ref a1), .unset, .unset] []
      have t2 : ns2.take 2 = ([i1, i2] : List Int32) := t2'
      refine s_iload H at_57 rfl (pc' := 59) rfl ?_
      refine s_iconst H at_59 (z := (3 : Int32)) (by decide) (pc' := 60) rfl ?_
      refine s_icmp H at_60 (py := 69) (pc' := 63) q_lt (by decide) rfl (fun c60 => ?_) (fun c60 => ?_)
      · refine s_iload H at_69 rfl (pc' := 71) rfl ?_
        refine s_if H at_71 (py := 80) (pc' := 74) z_ne (by decide) rfl (fun c71 => ?_) (fun c71 => ?_)
        · refine s_iload H at_80 rfl (pc' := 82) rfl ?_
          refine s_iconst H at_82 (z := (1 : Int32)) (by decide) (pc' := 83) rfl ?_
          refine s_icmp H at_83 (py := 92) (pc' := 86) q_ne (by decide) rfl (fun c83 => ?_) (fun c83 => ?_)
          · exact absurd c83 (by decide)
          · refine s_iloadn H at_86 rfl (pc' := 87) rfl ?_
            refine s_istore H at_87 (L' := fun z => #[.val (.int i0), .val (.int i1), .val (.int i2), .val (.int i3), .val (.int i4), .val (.int cp), .val (.int (2 : Int32)), .val (.int (1 : Int32)), .val (.ref a1), .val (.int z), .unset]) (fun _ => rfl) (pc' := 89) rfl (fun z0 hz => ?_)
            subst z0
            refine s_goto H at_89 (pc' := 108) (by decide) ?_
            refine s_iload H at_108 rfl (pc' := 110) rfl ?_
            refine s_iconst H at_110 (z := (1 : Int32)) (by decide) (pc' := 111) rfl ?_
            refine s_icmp H at_111 (py := 120) (pc' := 114) q_lt (by decide) rfl (fun c111 => ?_) (fun c111 => ?_)
            · exact absurd c111 (by decide)
            · refine s_iloadn H at_114 rfl (pc' := 115) rfl ?_
              refine s_iload H at_115 rfl (pc' := 117) rfl ?_
              refine s_icmp H at_117 (py := 144) (pc' := 120) q_eq (by decide) rfl (fun c117 => ?_) (fun c117 => ?_)
              · refine s_iconst H at_144 (z := (1 : Int32)) (by decide) (pc' := 145) rfl ?_
                refine s_goto H at_145 (pc' := 149) (by decide) ?_
                refine s_istore H at_149 (L' := fun z => #[.val (.int i0), .val (.int i1), .val (.int i2), .val (.int i3), .val (.int i4), .val (.int cp), .val (.int (2 : Int32)), .val (.int (1 : Int32)), .val (.ref a1), .val (.int i2), .val (.int z)]) (fun _ => rfl) (pc' := 151) rfl (fun z0 hz => ?_)
                subst z0
                refine s_aload H at_151 rfl rfl (pc' := 153) rfl ?_
                refine s_iload H at_153 rfl (pc' := 155) rfl ?_
                refine s_virtual H (met_nc H.tb a1 na2 ns2 2 i2 p2 k2) at_155 (i := 1) rfl (mem (i := 18) rfl) (mem (i := 19) rfl) (mem (i := 21) rfl) (mem (i := 20) rfl) (mem (i := 2) rfl) (mem (i := 22) rfl) (by decide) pd_4 rfl (rest := []) rfl rfl (by decide) (Nat.le_of_ble_eq_true rfl) (cn' := 4) (sn' := 14) rfl rfl (by decide) (by decide) (pc' := 158) rfl (fun _ _ hq => ?_)
                obtain ⟨rfl, rfl⟩ := hq
                show Go Z k 4 14 ((na2, ArI Z .int ns2) :: (a1, Obj Z "com/example/thorough_paths/thoroughpaths/service/Nodes" [("com/example/thorough_paths/thoroughpaths/service/Nodes", "size", "I", (.int (2 : Nat).toInt32)), ("com/example/thorough_paths/thoroughpaths/service/Nodes", "numbers", "[I", (.ref na2))]) :: F2) 158 #[.val (.int i0), .val (.int i1), .val (.int i2), .val (.int i3), .val (.int i4), .val (.int cp), .val (.int (2 : Int32)), .val (.int (1 : Int32)), .val (.ref a1), .val (.int i2), .val (.int (1 : Int32))] [(.int (if i2 ∈ ns2.take 2 then 1 else 0))]
                rw [t2]
                refine s_iload H at_158 rfl (pc' := 160) rfl ?_
                refine s_icmp H at_160 (py := 167) (pc' := 163) q_ne (by decide) rfl (fun c160 => ?_) (fun c160 => ?_)
                · refine s_iconst H at_167 (z := (0 : Int32)) (by decide) (pc' := 168) rfl ?_
                  exfalso
                  clear t0 t1 t1' t2 t2'
                  simp_all [eq_comm]
                · refine s_iconst H at_163 (z := (1 : Int32)) (by decide) (pc' := 164) rfl ?_
                  refine s_goto H at_164 (pc' := 168) (by decide) ?_
                  exact s_iret H at_168 rfl (by simp) (by decide) (by decide) (rfl)
              · refine s_iload H at_120 rfl (pc' := 122) rfl ?_
                refine s_iconst H at_122 (z := (2 : Int32)) (by decide) (pc' := 123) rfl ?_
                refine s_icmp H at_123 (py := 132) (pc' := 126) q_lt (by decide) rfl (fun c123 => ?_) (fun c123 => ?_)
                · exact absurd c123 (by decide)
                · refine s_iloadn H at_126 rfl (pc' := 127) rfl ?_
                  refine s_iload H at_127 rfl (pc' := 129) rfl ?_
                  refine s_icmp H at_129 (py := 144) (pc' := 132) q_eq (by decide) rfl (fun c129 => ?_) (fun c129 => ?_)
                  · refine s_iconst H at_144 (z := (1 : Int32)) (by decide) (pc' := 145) rfl ?_
                    refine s_goto H at_145 (pc' := 149) (by decide) ?_
                    refine s_istore H at_149 (L' := fun z => #[.val (.int i0), .val (.int i1), .val (.int i2), .val (.int i3), .val (.int i4), .val (.int cp), .val (.int (2 : Int32)), .val (.int (1 : Int32)), .val (.ref a1), .val (.int i2), .val (.int z)]) (fun _ => rfl) (pc' := 151) rfl (fun z0 hz => ?_)
                    subst z0
                    refine s_aload H at_151 rfl rfl (pc' := 153) rfl ?_
                    refine s_iload H at_153 rfl (pc' := 155) rfl ?_
                    refine s_virtual H (met_nc H.tb a1 na2 ns2 2 i2 p2 k2) at_155 (i := 1) rfl (mem (i := 18) rfl) (mem (i := 19) rfl) (mem (i := 21) rfl) (mem (i := 20) rfl) (mem (i := 2) rfl) (mem (i := 22) rfl) (by decide) pd_4 rfl (rest := []) rfl rfl (by decide) (Nat.le_of_ble_eq_true rfl) (cn' := 4) (sn' := 14) rfl rfl (by decide) (by decide) (pc' := 158) rfl (fun _ _ hq => ?_)
                    obtain ⟨rfl, rfl⟩ := hq
                    show Go Z k 4 14 ((na2, ArI Z .int ns2) :: (a1, Obj Z "com/example/thorough_paths/thoroughpaths/service/Nodes" [("com/example/thorough_paths/thoroughpaths/service/Nodes", "size", "I", (.int (2 : Nat).toInt32)), ("com/example/thorough_paths/thoroughpaths/service/Nodes", "numbers", "[I", (.ref na2))]) :: F2) 158 #[.val (.int i0), .val (.int i1), .val (.int i2), .val (.int i3), .val (.int i4), .val (.int cp), .val (.int (2 : Int32)), .val (.int (1 : Int32)), .val (.ref a1), .val (.int i2), .val (.int (1 : Int32))] [(.int (if i2 ∈ ns2.take 2 then 1 else 0))]
                    rw [t2]
                    refine s_iload H at_158 rfl (pc' := 160) rfl ?_
                    refine s_icmp H at_160 (py := 167) (pc' := 163) q_ne (by decide) rfl (fun c160 => ?_) (fun c160 => ?_)
                    · refine s_iconst H at_167 (z := (0 : Int32)) (by decide) (pc' := 168) rfl ?_
                      exfalso
                      clear t0 t1 t1' t2 t2'
                      simp_all [eq_comm]
                    · refine s_iconst H at_163 (z := (1 : Int32)) (by decide) (pc' := 164) rfl ?_
                      refine s_goto H at_164 (pc' := 168) (by decide) ?_
                      exact s_iret H at_168 rfl (by simp) (by decide) (by decide) (rfl)
                  · exact absurd rfl c129
        · exact absurd c71 (by decide)
      · exact absurd c60 (by decide)
set_option maxRecDepth 65536 in
set_option maxHeartbeats 40000000 in
theorem s22_2_2 {Z : State} {k : Cx} {i0 i1 i2 i3 i4 cp : Int32} (N0 : Nat) (H : Ok Z k room_1 (LQ) x code maxLocals ret) (hN : (N0 : Int) = max cp.toInt 1) (hN4 : N0 ≤ 4) : Go Z k 0 0 ([] : Hp) 22 #[.val (.int i0), .val (.int i1), .val (.int i2), .val (.int i3), .val (.int i4), .val (.int cp), .val (.int (2 : Int32)), .val (.int (2 : Int32)), .unset, .unset, .unset] [] := by
  refine s_new H (C := "com/example/thorough_paths/thoroughpaths/service/Nodes") [("com/example/thorough_paths/thoroughpaths/service/Nodes", "size", "I", (.int (0 : Int32))), ("com/example/thorough_paths/thoroughpaths/service/Nodes", "numbers", "[I", .null)] at_22 (mem (i := 0) rfl) (mem (i := 1) rfl) (mem (i := 2) rfl) (allC ⟨Or.inl (mem (i := 10) rfl), .int, by decide, rfl⟩ (allC ⟨Or.inl (mem (i := 17) rfl), (.array .int), by decide, rfl⟩ allN)) (by decide) (cn' := 1) (sn' := 2) rfl rfl (by decide) (by decide) (pc' := 25) rfl (fun a1 => ?_)
  refine s_dup H at_25 rfl (pc' := 26) rfl ?_
  refine s_iload H at_26 rfl (pc' := 28) rfl ?_
  refine s_init H (met_ni H.tb a1 cp N0 hN hN4) at_28 rfl (mem (i := 3) rfl) (mem (i := 4) rfl) (mem (i := 2) rfl) (mem (i := 5) rfl) (by decide) pd_1 rfl (rest := [(.ref a1)]) rfl rfl (by decide) (Nat.le_of_ble_eq_true rfl) (cn' := 2) (sn' := 6) rfl rfl (by decide) (by decide) (pc' := 31) rfl (fun _ _ hq => ?_)
  obtain ⟨na0, rfl, rfl⟩ := hq
  show Go Z k 2 6 ((na0, ArI Z .int (List.replicate N0 0)) :: (a1, Obj Z "com/example/thorough_paths/thoroughpaths/service/Nodes" [("com/example/thorough_paths/thoroughpaths/service/Nodes", "size", "I", (.int (0 : Nat).toInt32)), ("com/example/thorough_paths/thoroughpaths/service/Nodes", "numbers", "[I", (.ref na0))]) :: []) 31 #[.val (.int i0), .val (.int i1), .val (.int i2), .val (.int i3), .val (.int i4), .val (.int cp), .val (.int (2 : Int32)), .val (.int (2 : Int32)), .unset, .unset, .unset] [(.ref a1)]
  obtain ⟨ns0, he, l0⟩ : ∃ ns : List Int32, ns = List.replicate N0 0 ∧ ns.length = N0 := ⟨_, rfl, by simp⟩
  rw [← he]
  clear he
  have p0 : 0 ≤ ns0.length := Nat.zero_le _
  have k0 : ns0.length ≤ 100 := by omega
  have t0 : ns0.take 0 = [] := rfl
  show Go Z k 2 6 ((na0, ArI Z .int ns0) :: (a1, Obj Z "com/example/thorough_paths/thoroughpaths/service/Nodes" [("com/example/thorough_paths/thoroughpaths/service/Nodes", "size", "I", (.int (0 : Nat).toInt32)), ("com/example/thorough_paths/thoroughpaths/service/Nodes", "numbers", "[I", (.ref na0))]) :: []) 31 #[.val (.int i0), .val (.int i1), .val (.int i2), .val (.int i3), .val (.int i4), .val (.int cp), .val (.int (2 : Int32)), .val (.int (2 : Int32)), .unset, .unset, .unset] [(.ref a1)]
  refine s_astore H at_31 (L' := #[.val (.int i0), .val (.int i1), .val (.int i2), .val (.int i3), .val (.int i4), .val (.int cp), .val (.int (2 : Int32)), .val (.int (2 : Int32)), .val (.ref a1), .unset, .unset]) rfl rfl (pc' := 33) rfl ?_
  refine s_iload H at_33 rfl (pc' := 35) rfl ?_
  refine s_iconst H at_35 (z := (1 : Int32)) (by decide) (pc' := 36) rfl ?_
  refine s_icmp H at_36 (py := 45) (pc' := 39) q_lt (by decide) rfl (fun c36 => ?_) (fun c36 => ?_)
  · exact absurd c36 (by decide)
  · refine s_aload H at_39 rfl rfl (pc' := 41) rfl ?_
    refine s_iloadn H at_41 rfl (pc' := 42) rfl ?_
    refine s_virtual H (met_na H.tb a1 na0 ns0 ([] : List Int32) 0 i1 p0 (by decide) k0 t0) at_42 (i := 1) rfl (mem (i := 23) rfl) (mem (i := 24) rfl) (mem (i := 26) rfl) (mem (i := 25) rfl) (mem (i := 2) rfl) (mem (i := 27) rfl) (by decide) pd_5 rfl (rest := []) rfl rfl (by decide) (Nat.le_of_ble_eq_true rfl) (cn' := 3) (sn' := 10) rfl rfl (by decide) (by decide) (pc' := 45) rfl (fun _ _ hq => ?_)
    obtain ⟨na1, ns1, F1, p1, k1, t1', rfl, rfl⟩ := hq
    show Go Z k 3 10 ((na1, ArI Z .int ns1) :: (a1, Obj Z "com/example/thorough_paths/thoroughpaths/service/Nodes" [("com/example/thorough_paths/thoroughpaths/service/Nodes", "size", "I", (.int (1 : Nat).toInt32)), ("com/example/thorough_paths/thoroughpaths/service/Nodes", "numbers", "[I", (.ref na1))]) :: F1) 45 #[.val (.int i0), .val (.int i1), .val (.int i2), .val (.int i3), .val (.int i4), .val (.int cp), .val (.int (2 : Int32)), .val (.int (2 : Int32)), .val (.ref a1), .unset, .unset] []
    have t1 : ns1.take 1 = ([i1] : List Int32) := t1'
    refine s_iload H at_45 rfl (pc' := 47) rfl ?_
    refine s_iconst H at_47 (z := (2 : Int32)) (by decide) (pc' := 48) rfl ?_
    refine s_icmp H at_48 (py := 57) (pc' := 51) q_lt (by decide) rfl (fun c48 => ?_) (fun c48 => ?_)
    · exact absurd c48 (by decide)
    · refine s_aload H at_51 rfl rfl (pc' := 53) rfl ?_
      refine s_iloadn H at_53 rfl (pc' := 54) rfl ?_
      refine s_virtual H (met_na H.tb a1 na1 ns1 ([i1] : List Int32) 1 i2 p1 (by decide) k1 t1) at_54 (i := 1) rfl (mem (i := 23) rfl) (mem (i := 24) rfl) (mem (i := 26) rfl) (mem (i := 25) rfl) (mem (i := 2) rfl) (mem (i := 27) rfl) (by decide) pd_5 rfl (rest := []) rfl rfl (by decide) (Nat.le_of_ble_eq_true rfl) (cn' := 4) (sn' := 14) rfl rfl (by decide) (by decide) (pc' := 57) rfl (fun _ _ hq => ?_)
      obtain ⟨na2, ns2, F2, p2, k2, t2', rfl, rfl⟩ := hq
      show Go Z k 4 14 ((na2, ArI Z .int ns2) :: (a1, Obj Z "com/example/thorough_paths/thoroughpaths/service/Nodes" [("com/example/thorough_paths/thoroughpaths/service/Nodes", "size", "I", (.int (2 : Nat).toInt32)), ("com/example/thorough_paths/thoroughpaths/service/Nodes", "numbers", "[I", (.ref na2))]) :: F2) 57 #[.val (.int i0), .val (.int i1), .val (.int i2), .val (.int i3), .val (.int i4), .val (.int cp), .val (.int (2 : Int32)), .val (.int (2 : Int32)), .val (.ref a1), .unset, .unset] []
      have t2 : ns2.take 2 = ([i1, i2] : List Int32) := t2'
      refine s_iload H at_57 rfl (pc' := 59) rfl ?_
      refine s_iconst H at_59 (z := (3 : Int32)) (by decide) (pc' := 60) rfl ?_
      refine s_icmp H at_60 (py := 69) (pc' := 63) q_lt (by decide) rfl (fun c60 => ?_) (fun c60 => ?_)
      · refine s_iload H at_69 rfl (pc' := 71) rfl ?_
        refine s_if H at_71 (py := 80) (pc' := 74) z_ne (by decide) rfl (fun c71 => ?_) (fun c71 => ?_)
        · refine s_iload H at_80 rfl (pc' := 82) rfl ?_
          refine s_iconst H at_82 (z := (1 : Int32)) (by decide) (pc' := 83) rfl ?_
          refine s_icmp H at_83 (py := 92) (pc' := 86) q_ne (by decide) rfl (fun c83 => ?_) (fun c83 => ?_)
          · refine s_iload H at_92 rfl (pc' := 94) rfl ?_
            refine s_iconst H at_94 (z := (2 : Int32)) (by decide) (pc' := 95) rfl ?_
            refine s_icmp H at_95 (py := 104) (pc' := 98) q_ne (by decide) rfl (fun c95 => ?_) (fun c95 => ?_)
            · exact absurd c95 (by decide)
            · refine s_iloadn H at_98 rfl (pc' := 99) rfl ?_
              refine s_istore H at_99 (L' := fun z => #[.val (.int i0), .val (.int i1), .val (.int i2), .val (.int i3), .val (.int i4), .val (.int cp), .val (.int (2 : Int32)), .val (.int (2 : Int32)), .val (.ref a1), .val (.int z), .unset]) (fun _ => rfl) (pc' := 101) rfl (fun z0 hz => ?_)
              subst z0
              refine s_goto H at_101 (pc' := 108) (by decide) ?_
              refine s_iload H at_108 rfl (pc' := 110) rfl ?_
              refine s_iconst H at_110 (z := (1 : Int32)) (by decide) (pc' := 111) rfl ?_
              refine s_icmp H at_111 (py := 120) (pc' := 114) q_lt (by decide) rfl (fun c111 => ?_) (fun c111 => ?_)
              · exact absurd c111 (by decide)
              · refine s_iloadn H at_114 rfl (pc' := 115) rfl ?_
                refine s_iload H at_115 rfl (pc' := 117) rfl ?_
                refine s_icmp H at_117 (py := 144) (pc' := 120) q_eq (by decide) rfl (fun c117 => ?_) (fun c117 => ?_)
                · refine s_iconst H at_144 (z := (1 : Int32)) (by decide) (pc' := 145) rfl ?_
                  refine s_goto H at_145 (pc' := 149) (by decide) ?_
                  refine s_istore H at_149 (L' := fun z => #[.val (.int i0), .val (.int i1), .val (.int i2), .val (.int i3), .val (.int i4), .val (.int cp), .val (.int (2 : Int32)), .val (.int (2 : Int32)), .val (.ref a1), .val (.int i3), .val (.int z)]) (fun _ => rfl) (pc' := 151) rfl (fun z0 hz => ?_)
                  subst z0
                  refine s_aload H at_151 rfl rfl (pc' := 153) rfl ?_
                  refine s_iload H at_153 rfl (pc' := 155) rfl ?_
                  refine s_virtual H (met_nc H.tb a1 na2 ns2 2 i3 p2 k2) at_155 (i := 1) rfl (mem (i := 18) rfl) (mem (i := 19) rfl) (mem (i := 21) rfl) (mem (i := 20) rfl) (mem (i := 2) rfl) (mem (i := 22) rfl) (by decide) pd_4 rfl (rest := []) rfl rfl (by decide) (Nat.le_of_ble_eq_true rfl) (cn' := 4) (sn' := 14) rfl rfl (by decide) (by decide) (pc' := 158) rfl (fun _ _ hq => ?_)
                  obtain ⟨rfl, rfl⟩ := hq
                  show Go Z k 4 14 ((na2, ArI Z .int ns2) :: (a1, Obj Z "com/example/thorough_paths/thoroughpaths/service/Nodes" [("com/example/thorough_paths/thoroughpaths/service/Nodes", "size", "I", (.int (2 : Nat).toInt32)), ("com/example/thorough_paths/thoroughpaths/service/Nodes", "numbers", "[I", (.ref na2))]) :: F2) 158 #[.val (.int i0), .val (.int i1), .val (.int i2), .val (.int i3), .val (.int i4), .val (.int cp), .val (.int (2 : Int32)), .val (.int (2 : Int32)), .val (.ref a1), .val (.int i3), .val (.int (1 : Int32))] [(.int (if i3 ∈ ns2.take 2 then 1 else 0))]
                  rw [t2]
                  refine s_iload H at_158 rfl (pc' := 160) rfl ?_
                  refine s_icmp H at_160 (py := 167) (pc' := 163) q_ne (by decide) rfl (fun c160 => ?_) (fun c160 => ?_)
                  · refine s_iconst H at_167 (z := (0 : Int32)) (by decide) (pc' := 168) rfl ?_
                    exfalso
                    clear t0 t1 t1' t2 t2'
                    simp_all [eq_comm]
                  · refine s_iconst H at_163 (z := (1 : Int32)) (by decide) (pc' := 164) rfl ?_
                    refine s_goto H at_164 (pc' := 168) (by decide) ?_
                    exact s_iret H at_168 rfl (by simp) (by decide) (by decide) (rfl)
                · refine s_iload H at_120 rfl (pc' := 122) rfl ?_
                  refine s_iconst H at_122 (z := (2 : Int32)) (by decide) (pc' := 123) rfl ?_
                  refine s_icmp H at_123 (py := 132) (pc' := 126) q_lt (by decide) rfl (fun c123 => ?_) (fun c123 => ?_)
                  · exact absurd c123 (by decide)
                  · refine s_iloadn H at_126 rfl (pc' := 127) rfl ?_
                    refine s_iload H at_127 rfl (pc' := 129) rfl ?_
                    refine s_icmp H at_129 (py := 144) (pc' := 132) q_eq (by decide) rfl (fun c129 => ?_) (fun c129 => ?_)
                    · refine s_iconst H at_144 (z := (1 : Int32)) (by decide) (pc' := 145) rfl ?_
                      refine s_goto H at_145 (pc' := 149) (by decide) ?_
                      refine s_istore H at_149 (L' := fun z => #[.val (.int i0), .val (.int i1), .val (.int i2), .val (.int i3), .val (.int i4), .val (.int cp), .val (.int (2 : Int32)), .val (.int (2 : Int32)), .val (.ref a1), .val (.int i3), .val (.int z)]) (fun _ => rfl) (pc' := 151) rfl (fun z0 hz => ?_)
                      subst z0
                      refine s_aload H at_151 rfl rfl (pc' := 153) rfl ?_
                      refine s_iload H at_153 rfl (pc' := 155) rfl ?_
                      refine s_virtual H (met_nc H.tb a1 na2 ns2 2 i3 p2 k2) at_155 (i := 1) rfl (mem (i := 18) rfl) (mem (i := 19) rfl) (mem (i := 21) rfl) (mem (i := 20) rfl) (mem (i := 2) rfl) (mem (i := 22) rfl) (by decide) pd_4 rfl (rest := []) rfl rfl (by decide) (Nat.le_of_ble_eq_true rfl) (cn' := 4) (sn' := 14) rfl rfl (by decide) (by decide) (pc' := 158) rfl (fun _ _ hq => ?_)
                      obtain ⟨rfl, rfl⟩ := hq
                      show Go Z k 4 14 ((na2, ArI Z .int ns2) :: (a1, Obj Z "com/example/thorough_paths/thoroughpaths/service/Nodes" [("com/example/thorough_paths/thoroughpaths/service/Nodes", "size", "I", (.int (2 : Nat).toInt32)), ("com/example/thorough_paths/thoroughpaths/service/Nodes", "numbers", "[I", (.ref na2))]) :: F2) 158 #[.val (.int i0), .val (.int i1), .val (.int i2), .val (.int i3), .val (.int i4), .val (.int cp), .val (.int (2 : Int32)), .val (.int (2 : Int32)), .val (.ref a1), .val (.int i3), .val (.int (1 : Int32))] [(.int (if i3 ∈ ns2.take 2 then 1 else 0))]
                      rw [t2]
                      refine s_iload H at_158 rfl (pc' := 160) rfl ?_
                      refine s_icmp H at_160 (py := 167) (pc' := 163) q_ne (by decide) rfl (fun c160 => ?_) (fun c160 => ?_)
                      · refine s_iconst H at_167 (z := (0 : Int32)) (by decide) (pc' := 168) rfl ?_
                        exfalso
                        clear t0 t1 t1' t2 t2'
                        simp_all [eq_comm]
                      · refine s_iconst H at_163 (z := (1 : Int32)) (by decide) (pc' := 164) rfl ?_
                        refine s_goto H at_164 (pc' := 168) (by decide) ?_
                        exact s_iret H at_168 rfl (by simp) (by decide) (by decide) (rfl)
                    · refine s_iload H at_132 rfl (pc' := 134) rfl ?_
                      refine s_iconst H at_134 (z := (3 : Int32)) (by decide) (pc' := 135) rfl ?_
                      refine s_icmp H at_135 (py := 148) (pc' := 138) q_lt (by decide) rfl (fun c135 => ?_) (fun c135 => ?_)
                      · refine s_iconst H at_148 (z := (0 : Int32)) (by decide) (pc' := 149) rfl ?_
                        refine s_istore H at_149 (L' := fun z => #[.val (.int i0), .val (.int i1), .val (.int i2), .val (.int i3), .val (.int i4), .val (.int cp), .val (.int (2 : Int32)), .val (.int (2 : Int32)), .val (.ref a1), .val (.int i3), .val (.int z)]) (fun _ => rfl) (pc' := 151) rfl (fun z0 hz => ?_)
                        subst z0
                        refine s_aload H at_151 rfl rfl (pc' := 153) rfl ?_
                        refine s_iload H at_153 rfl (pc' := 155) rfl ?_
                        refine s_virtual H (met_nc H.tb a1 na2 ns2 2 i3 p2 k2) at_155 (i := 1) rfl (mem (i := 18) rfl) (mem (i := 19) rfl) (mem (i := 21) rfl) (mem (i := 20) rfl) (mem (i := 2) rfl) (mem (i := 22) rfl) (by decide) pd_4 rfl (rest := []) rfl rfl (by decide) (Nat.le_of_ble_eq_true rfl) (cn' := 4) (sn' := 14) rfl rfl (by decide) (by decide) (pc' := 158) rfl (fun _ _ hq => ?_)
                        obtain ⟨rfl, rfl⟩ := hq
                        show Go Z k 4 14 ((na2, ArI Z .int ns2) :: (a1, Obj Z "com/example/thorough_paths/thoroughpaths/service/Nodes" [("com/example/thorough_paths/thoroughpaths/service/Nodes", "size", "I", (.int (2 : Nat).toInt32)), ("com/example/thorough_paths/thoroughpaths/service/Nodes", "numbers", "[I", (.ref na2))]) :: F2) 158 #[.val (.int i0), .val (.int i1), .val (.int i2), .val (.int i3), .val (.int i4), .val (.int cp), .val (.int (2 : Int32)), .val (.int (2 : Int32)), .val (.ref a1), .val (.int i3), .val (.int (0 : Int32))] [(.int (if i3 ∈ ns2.take 2 then 1 else 0))]
                        rw [t2]
                        refine s_iload H at_158 rfl (pc' := 160) rfl ?_
                        refine s_icmp H at_160 (py := 167) (pc' := 163) q_ne (by decide) rfl (fun c160 => ?_) (fun c160 => ?_)
                        · refine s_iconst H at_167 (z := (0 : Int32)) (by decide) (pc' := 168) rfl ?_
                          exfalso
                          clear t0 t1 t1' t2 t2'
                          simp_all [eq_comm]
                        · refine s_iconst H at_163 (z := (1 : Int32)) (by decide) (pc' := 164) rfl ?_
                          refine s_goto H at_164 (pc' := 168) (by decide) ?_
                          exact s_iret H at_168 rfl (by simp) (by decide) (by decide) (rfl)
                      · exact absurd c135 (by decide)
          · exact absurd c83 (by decide)
        · exact absurd c71 (by decide)
      · exact absurd c60 (by decide)
set_option maxRecDepth 65536 in
set_option maxHeartbeats 40000000 in
theorem s22_2_3 {Z : State} {k : Cx} {i0 i1 i2 i3 i4 cp : Int32} (N0 : Nat) (H : Ok Z k room_1 (LQ) x code maxLocals ret) (hN : (N0 : Int) = max cp.toInt 1) (hN4 : N0 ≤ 4) : Go Z k 0 0 ([] : Hp) 22 #[.val (.int i0), .val (.int i1), .val (.int i2), .val (.int i3), .val (.int i4), .val (.int cp), .val (.int (2 : Int32)), .val (.int (3 : Int32)), .unset, .unset, .unset] [] := by
  refine s_new H (C := "com/example/thorough_paths/thoroughpaths/service/Nodes") [("com/example/thorough_paths/thoroughpaths/service/Nodes", "size", "I", (.int (0 : Int32))), ("com/example/thorough_paths/thoroughpaths/service/Nodes", "numbers", "[I", .null)] at_22 (mem (i := 0) rfl) (mem (i := 1) rfl) (mem (i := 2) rfl) (allC ⟨Or.inl (mem (i := 10) rfl), .int, by decide, rfl⟩ (allC ⟨Or.inl (mem (i := 17) rfl), (.array .int), by decide, rfl⟩ allN)) (by decide) (cn' := 1) (sn' := 2) rfl rfl (by decide) (by decide) (pc' := 25) rfl (fun a1 => ?_)
  refine s_dup H at_25 rfl (pc' := 26) rfl ?_
  refine s_iload H at_26 rfl (pc' := 28) rfl ?_
  refine s_init H (met_ni H.tb a1 cp N0 hN hN4) at_28 rfl (mem (i := 3) rfl) (mem (i := 4) rfl) (mem (i := 2) rfl) (mem (i := 5) rfl) (by decide) pd_1 rfl (rest := [(.ref a1)]) rfl rfl (by decide) (Nat.le_of_ble_eq_true rfl) (cn' := 2) (sn' := 6) rfl rfl (by decide) (by decide) (pc' := 31) rfl (fun _ _ hq => ?_)
  obtain ⟨na0, rfl, rfl⟩ := hq
  show Go Z k 2 6 ((na0, ArI Z .int (List.replicate N0 0)) :: (a1, Obj Z "com/example/thorough_paths/thoroughpaths/service/Nodes" [("com/example/thorough_paths/thoroughpaths/service/Nodes", "size", "I", (.int (0 : Nat).toInt32)), ("com/example/thorough_paths/thoroughpaths/service/Nodes", "numbers", "[I", (.ref na0))]) :: []) 31 #[.val (.int i0), .val (.int i1), .val (.int i2), .val (.int i3), .val (.int i4), .val (.int cp), .val (.int (2 : Int32)), .val (.int (3 : Int32)), .unset, .unset, .unset] [(.ref a1)]
  obtain ⟨ns0, he, l0⟩ : ∃ ns : List Int32, ns = List.replicate N0 0 ∧ ns.length = N0 := ⟨_, rfl, by simp⟩
  rw [← he]
  clear he
  have p0 : 0 ≤ ns0.length := Nat.zero_le _
  have k0 : ns0.length ≤ 100 := by omega
  have t0 : ns0.take 0 = [] := rfl
  show Go Z k 2 6 ((na0, ArI Z .int ns0) :: (a1, Obj Z "com/example/thorough_paths/thoroughpaths/service/Nodes" [("com/example/thorough_paths/thoroughpaths/service/Nodes", "size", "I", (.int (0 : Nat).toInt32)), ("com/example/thorough_paths/thoroughpaths/service/Nodes", "numbers", "[I", (.ref na0))]) :: []) 31 #[.val (.int i0), .val (.int i1), .val (.int i2), .val (.int i3), .val (.int i4), .val (.int cp), .val (.int (2 : Int32)), .val (.int (3 : Int32)), .unset, .unset, .unset] [(.ref a1)]
  refine s_astore H at_31 (L' := #[.val (.int i0), .val (.int i1), .val (.int i2), .val (.int i3), .val (.int i4), .val (.int cp), .val (.int (2 : Int32)), .val (.int (3 : Int32)), .val (.ref a1), .unset, .unset]) rfl rfl (pc' := 33) rfl ?_
  refine s_iload H at_33 rfl (pc' := 35) rfl ?_
  refine s_iconst H at_35 (z := (1 : Int32)) (by decide) (pc' := 36) rfl ?_
  refine s_icmp H at_36 (py := 45) (pc' := 39) q_lt (by decide) rfl (fun c36 => ?_) (fun c36 => ?_)
  · exact absurd c36 (by decide)
  · refine s_aload H at_39 rfl rfl (pc' := 41) rfl ?_
    refine s_iloadn H at_41 rfl (pc' := 42) rfl ?_
    refine s_virtual H (met_na H.tb a1 na0 ns0 ([] : List Int32) 0 i1 p0 (by decide) k0 t0) at_42 (i := 1) rfl (mem (i := 23) rfl) (mem (i := 24) rfl) (mem (i := 26) rfl) (mem (i := 25) rfl) (mem (i := 2) rfl) (mem (i := 27) rfl) (by decide) pd_5 rfl (rest := []) rfl rfl (by decide) (Nat.le_of_ble_eq_true rfl) (cn' := 3) (sn' := 10) rfl rfl (by decide) (by decide) (pc' := 45) rfl (fun _ _ hq => ?_)
    obtain ⟨na1, ns1, F1, p1, k1, t1', rfl, rfl⟩ := hq
    show Go Z k 3 10 ((na1, ArI Z .int ns1) :: (a1, Obj Z "com/example/thorough_paths/thoroughpaths/service/Nodes" [("com/example/thorough_paths/thoroughpaths/service/Nodes", "size", "I", (.int (1 : Nat).toInt32)), ("com/example/thorough_paths/thoroughpaths/service/Nodes", "numbers", "[I", (.ref na1))]) :: F1) 45 #[.val (.int i0), .val (.int i1), .val (.int i2), .val (.int i3), .val (.int i4), .val (.int cp), .val (.int (2 : Int32)), .val (.int (3 : Int32)), .val (.ref a1), .unset, .unset] []
    have t1 : ns1.take 1 = ([i1] : List Int32) := t1'
    refine s_iload H at_45 rfl (pc' := 47) rfl ?_
    refine s_iconst H at_47 (z := (2 : Int32)) (by decide) (pc' := 48) rfl ?_
    refine s_icmp H at_48 (py := 57) (pc' := 51) q_lt (by decide) rfl (fun c48 => ?_) (fun c48 => ?_)
    · exact absurd c48 (by decide)
    · refine s_aload H at_51 rfl rfl (pc' := 53) rfl ?_
      refine s_iloadn H at_53 rfl (pc' := 54) rfl ?_
      refine s_virtual H (met_na H.tb a1 na1 ns1 ([i1] : List Int32) 1 i2 p1 (by decide) k1 t1) at_54 (i := 1) rfl (mem (i := 23) rfl) (mem (i := 24) rfl) (mem (i := 26) rfl) (mem (i := 25) rfl) (mem (i := 2) rfl) (mem (i := 27) rfl) (by decide) pd_5 rfl (rest := []) rfl rfl (by decide) (Nat.le_of_ble_eq_true rfl) (cn' := 4) (sn' := 14) rfl rfl (by decide) (by decide) (pc' := 57) rfl (fun _ _ hq => ?_)
      obtain ⟨na2, ns2, F2, p2, k2, t2', rfl, rfl⟩ := hq
      show Go Z k 4 14 ((na2, ArI Z .int ns2) :: (a1, Obj Z "com/example/thorough_paths/thoroughpaths/service/Nodes" [("com/example/thorough_paths/thoroughpaths/service/Nodes", "size", "I", (.int (2 : Nat).toInt32)), ("com/example/thorough_paths/thoroughpaths/service/Nodes", "numbers", "[I", (.ref na2))]) :: F2) 57 #[.val (.int i0), .val (.int i1), .val (.int i2), .val (.int i3), .val (.int i4), .val (.int cp), .val (.int (2 : Int32)), .val (.int (3 : Int32)), .val (.ref a1), .unset, .unset] []
      have t2 : ns2.take 2 = ([i1, i2] : List Int32) := t2'
      refine s_iload H at_57 rfl (pc' := 59) rfl ?_
      refine s_iconst H at_59 (z := (3 : Int32)) (by decide) (pc' := 60) rfl ?_
      refine s_icmp H at_60 (py := 69) (pc' := 63) q_lt (by decide) rfl (fun c60 => ?_) (fun c60 => ?_)
      · refine s_iload H at_69 rfl (pc' := 71) rfl ?_
        refine s_if H at_71 (py := 80) (pc' := 74) z_ne (by decide) rfl (fun c71 => ?_) (fun c71 => ?_)
        · refine s_iload H at_80 rfl (pc' := 82) rfl ?_
          refine s_iconst H at_82 (z := (1 : Int32)) (by decide) (pc' := 83) rfl ?_
          refine s_icmp H at_83 (py := 92) (pc' := 86) q_ne (by decide) rfl (fun c83 => ?_) (fun c83 => ?_)
          · refine s_iload H at_92 rfl (pc' := 94) rfl ?_
            refine s_iconst H at_94 (z := (2 : Int32)) (by decide) (pc' := 95) rfl ?_
            refine s_icmp H at_95 (py := 104) (pc' := 98) q_ne (by decide) rfl (fun c95 => ?_) (fun c95 => ?_)
            · refine s_iload H at_104 rfl (pc' := 106) rfl ?_
              refine s_istore H at_106 (L' := fun z => #[.val (.int i0), .val (.int i1), .val (.int i2), .val (.int i3), .val (.int i4), .val (.int cp), .val (.int (2 : Int32)), .val (.int (3 : Int32)), .val (.ref a1), .val (.int z), .unset]) (fun _ => rfl) (pc' := 108) rfl (fun z0 hz => ?_)
              subst z0
              refine s_iload H at_108 rfl (pc' := 110) rfl ?_
              refine s_iconst H at_110 (z := (1 : Int32)) (by decide) (pc' := 111) rfl ?_
              refine s_icmp H at_111 (py := 120) (pc' := 114) q_lt (by decide) rfl (fun c111 => ?_) (fun c111 => ?_)
              · exact absurd c111 (by decide)
              · refine s_iloadn H at_114 rfl (pc' := 115) rfl ?_
                refine s_iload H at_115 rfl (pc' := 117) rfl ?_
                refine s_icmp H at_117 (py := 144) (pc' := 120) q_eq (by decide) rfl (fun c117 => ?_) (fun c117 => ?_)
                · refine s_iconst H at_144 (z := (1 : Int32)) (by decide) (pc' := 145) rfl ?_
                  refine s_goto H at_145 (pc' := 149) (by decide) ?_
                  refine s_istore H at_149 (L' := fun z => #[.val (.int i0), .val (.int i1), .val (.int i2), .val (.int i3), .val (.int i4), .val (.int cp), .val (.int (2 : Int32)), .val (.int (3 : Int32)), .val (.ref a1), .val (.int i4), .val (.int z)]) (fun _ => rfl) (pc' := 151) rfl (fun z0 hz => ?_)
                  subst z0
                  refine s_aload H at_151 rfl rfl (pc' := 153) rfl ?_
                  refine s_iload H at_153 rfl (pc' := 155) rfl ?_
                  refine s_virtual H (met_nc H.tb a1 na2 ns2 2 i4 p2 k2) at_155 (i := 1) rfl (mem (i := 18) rfl) (mem (i := 19) rfl) (mem (i := 21) rfl) (mem (i := 20) rfl) (mem (i := 2) rfl) (mem (i := 22) rfl) (by decide) pd_4 rfl (rest := []) rfl rfl (by decide) (Nat.le_of_ble_eq_true rfl) (cn' := 4) (sn' := 14) rfl rfl (by decide) (by decide) (pc' := 158) rfl (fun _ _ hq => ?_)
                  obtain ⟨rfl, rfl⟩ := hq
                  show Go Z k 4 14 ((na2, ArI Z .int ns2) :: (a1, Obj Z "com/example/thorough_paths/thoroughpaths/service/Nodes" [("com/example/thorough_paths/thoroughpaths/service/Nodes", "size", "I", (.int (2 : Nat).toInt32)), ("com/example/thorough_paths/thoroughpaths/service/Nodes", "numbers", "[I", (.ref na2))]) :: F2) 158 #[.val (.int i0), .val (.int i1), .val (.int i2), .val (.int i3), .val (.int i4), .val (.int cp), .val (.int (2 : Int32)), .val (.int (3 : Int32)), .val (.ref a1), .val (.int i4), .val (.int (1 : Int32))] [(.int (if i4 ∈ ns2.take 2 then 1 else 0))]
                  rw [t2]
                  refine s_iload H at_158 rfl (pc' := 160) rfl ?_
                  refine s_icmp H at_160 (py := 167) (pc' := 163) q_ne (by decide) rfl (fun c160 => ?_) (fun c160 => ?_)
                  · refine s_iconst H at_167 (z := (0 : Int32)) (by decide) (pc' := 168) rfl ?_
                    exfalso
                    clear t0 t1 t1' t2 t2'
                    simp_all [eq_comm]
                  · refine s_iconst H at_163 (z := (1 : Int32)) (by decide) (pc' := 164) rfl ?_
                    refine s_goto H at_164 (pc' := 168) (by decide) ?_
                    exact s_iret H at_168 rfl (by simp) (by decide) (by decide) (rfl)
                · refine s_iload H at_120 rfl (pc' := 122) rfl ?_
                  refine s_iconst H at_122 (z := (2 : Int32)) (by decide) (pc' := 123) rfl ?_
                  refine s_icmp H at_123 (py := 132) (pc' := 126) q_lt (by decide) rfl (fun c123 => ?_) (fun c123 => ?_)
                  · exact absurd c123 (by decide)
                  · refine s_iloadn H at_126 rfl (pc' := 127) rfl ?_
                    refine s_iload H at_127 rfl (pc' := 129) rfl ?_
                    refine s_icmp H at_129 (py := 144) (pc' := 132) q_eq (by decide) rfl (fun c129 => ?_) (fun c129 => ?_)
                    · refine s_iconst H at_144 (z := (1 : Int32)) (by decide) (pc' := 145) rfl ?_
                      refine s_goto H at_145 (pc' := 149) (by decide) ?_
                      refine s_istore H at_149 (L' := fun z => #[.val (.int i0), .val (.int i1), .val (.int i2), .val (.int i3), .val (.int i4), .val (.int cp), .val (.int (2 : Int32)), .val (.int (3 : Int32)), .val (.ref a1), .val (.int i4), .val (.int z)]) (fun _ => rfl) (pc' := 151) rfl (fun z0 hz => ?_)
                      subst z0
                      refine s_aload H at_151 rfl rfl (pc' := 153) rfl ?_
                      refine s_iload H at_153 rfl (pc' := 155) rfl ?_
                      refine s_virtual H (met_nc H.tb a1 na2 ns2 2 i4 p2 k2) at_155 (i := 1) rfl (mem (i := 18) rfl) (mem (i := 19) rfl) (mem (i := 21) rfl) (mem (i := 20) rfl) (mem (i := 2) rfl) (mem (i := 22) rfl) (by decide) pd_4 rfl (rest := []) rfl rfl (by decide) (Nat.le_of_ble_eq_true rfl) (cn' := 4) (sn' := 14) rfl rfl (by decide) (by decide) (pc' := 158) rfl (fun _ _ hq => ?_)
                      obtain ⟨rfl, rfl⟩ := hq
                      show Go Z k 4 14 ((na2, ArI Z .int ns2) :: (a1, Obj Z "com/example/thorough_paths/thoroughpaths/service/Nodes" [("com/example/thorough_paths/thoroughpaths/service/Nodes", "size", "I", (.int (2 : Nat).toInt32)), ("com/example/thorough_paths/thoroughpaths/service/Nodes", "numbers", "[I", (.ref na2))]) :: F2) 158 #[.val (.int i0), .val (.int i1), .val (.int i2), .val (.int i3), .val (.int i4), .val (.int cp), .val (.int (2 : Int32)), .val (.int (3 : Int32)), .val (.ref a1), .val (.int i4), .val (.int (1 : Int32))] [(.int (if i4 ∈ ns2.take 2 then 1 else 0))]
                      rw [t2]
                      refine s_iload H at_158 rfl (pc' := 160) rfl ?_
                      refine s_icmp H at_160 (py := 167) (pc' := 163) q_ne (by decide) rfl (fun c160 => ?_) (fun c160 => ?_)
                      · refine s_iconst H at_167 (z := (0 : Int32)) (by decide) (pc' := 168) rfl ?_
                        exfalso
                        clear t0 t1 t1' t2 t2'
                        simp_all [eq_comm]
                      · refine s_iconst H at_163 (z := (1 : Int32)) (by decide) (pc' := 164) rfl ?_
                        refine s_goto H at_164 (pc' := 168) (by decide) ?_
                        exact s_iret H at_168 rfl (by simp) (by decide) (by decide) (rfl)
                    · refine s_iload H at_132 rfl (pc' := 134) rfl ?_
                      refine s_iconst H at_134 (z := (3 : Int32)) (by decide) (pc' := 135) rfl ?_
                      refine s_icmp H at_135 (py := 148) (pc' := 138) q_lt (by decide) rfl (fun c135 => ?_) (fun c135 => ?_)
                      · refine s_iconst H at_148 (z := (0 : Int32)) (by decide) (pc' := 149) rfl ?_
                        refine s_istore H at_149 (L' := fun z => #[.val (.int i0), .val (.int i1), .val (.int i2), .val (.int i3), .val (.int i4), .val (.int cp), .val (.int (2 : Int32)), .val (.int (3 : Int32)), .val (.ref a1), .val (.int i4), .val (.int z)]) (fun _ => rfl) (pc' := 151) rfl (fun z0 hz => ?_)
                        subst z0
                        refine s_aload H at_151 rfl rfl (pc' := 153) rfl ?_
                        refine s_iload H at_153 rfl (pc' := 155) rfl ?_
                        refine s_virtual H (met_nc H.tb a1 na2 ns2 2 i4 p2 k2) at_155 (i := 1) rfl (mem (i := 18) rfl) (mem (i := 19) rfl) (mem (i := 21) rfl) (mem (i := 20) rfl) (mem (i := 2) rfl) (mem (i := 22) rfl) (by decide) pd_4 rfl (rest := []) rfl rfl (by decide) (Nat.le_of_ble_eq_true rfl) (cn' := 4) (sn' := 14) rfl rfl (by decide) (by decide) (pc' := 158) rfl (fun _ _ hq => ?_)
                        obtain ⟨rfl, rfl⟩ := hq
                        show Go Z k 4 14 ((na2, ArI Z .int ns2) :: (a1, Obj Z "com/example/thorough_paths/thoroughpaths/service/Nodes" [("com/example/thorough_paths/thoroughpaths/service/Nodes", "size", "I", (.int (2 : Nat).toInt32)), ("com/example/thorough_paths/thoroughpaths/service/Nodes", "numbers", "[I", (.ref na2))]) :: F2) 158 #[.val (.int i0), .val (.int i1), .val (.int i2), .val (.int i3), .val (.int i4), .val (.int cp), .val (.int (2 : Int32)), .val (.int (3 : Int32)), .val (.ref a1), .val (.int i4), .val (.int (0 : Int32))] [(.int (if i4 ∈ ns2.take 2 then 1 else 0))]
                        rw [t2]
                        refine s_iload H at_158 rfl (pc' := 160) rfl ?_
                        refine s_icmp H at_160 (py := 167) (pc' := 163) q_ne (by decide) rfl (fun c160 => ?_) (fun c160 => ?_)
                        · refine s_iconst H at_167 (z := (0 : Int32)) (by decide) (pc' := 168) rfl ?_
                          exfalso
                          clear t0 t1 t1' t2 t2'
                          simp_all [eq_comm]
                        · refine s_iconst H at_163 (z := (1 : Int32)) (by decide) (pc' := 164) rfl ?_
                          refine s_goto H at_164 (pc' := 168) (by decide) ?_
                          exact s_iret H at_168 rfl (by simp) (by decide) (by decide) (rfl)
                      · exact absurd c135 (by decide)
            · exact absurd c95 (by decide)
          · exact absurd c83 (by decide)
        · exact absurd c71 (by decide)
      · exact absurd c60 (by decide)
set_option maxRecDepth 65536 in
set_option maxHeartbeats 40000000 in
theorem s22_3_0 {Z : State} {k : Cx} {i0 i1 i2 i3 i4 cp : Int32} (N0 : Nat) (H : Ok Z k room_1 (LQ) x code maxLocals ret) (hN : (N0 : Int) = max cp.toInt 1) (hN4 : N0 ≤ 4) : Go Z k 0 0 ([] : Hp) 22 #[.val (.int i0), .val (.int i1), .val (.int i2), .val (.int i3), .val (.int i4), .val (.int cp), .val (.int (3 : Int32)), .val (.int (0 : Int32)), .unset, .unset, .unset] [] := by
  refine s_new H (C := "com/example/thorough_paths/thoroughpaths/service/Nodes") [("com/example/thorough_paths/thoroughpaths/service/Nodes", "size", "I", (.int (0 : Int32))), ("com/example/thorough_paths/thoroughpaths/service/Nodes", "numbers", "[I", .null)] at_22 (mem (i := 0) rfl) (mem (i := 1) rfl) (mem (i := 2) rfl) (allC ⟨Or.inl (mem (i := 10) rfl), .int, by decide, rfl⟩ (allC ⟨Or.inl (mem (i := 17) rfl), (.array .int), by decide, rfl⟩ allN)) (by decide) (cn' := 1) (sn' := 2) rfl rfl (by decide) (by decide) (pc' := 25) rfl (fun a1 => ?_)
  refine s_dup H at_25 rfl (pc' := 26) rfl ?_
  refine s_iload H at_26 rfl (pc' := 28) rfl ?_
  refine s_init H (met_ni H.tb a1 cp N0 hN hN4) at_28 rfl (mem (i := 3) rfl) (mem (i := 4) rfl) (mem (i := 2) rfl) (mem (i := 5) rfl) (by decide) pd_1 rfl (rest := [(.ref a1)]) rfl rfl (by decide) (Nat.le_of_ble_eq_true rfl) (cn' := 2) (sn' := 6) rfl rfl (by decide) (by decide) (pc' := 31) rfl (fun _ _ hq => ?_)
  obtain ⟨na0, rfl, rfl⟩ := hq
  show Go Z k 2 6 ((na0, ArI Z .int (List.replicate N0 0)) :: (a1, Obj Z "com/example/thorough_paths/thoroughpaths/service/Nodes" [("com/example/thorough_paths/thoroughpaths/service/Nodes", "size", "I", (.int (0 : Nat).toInt32)), ("com/example/thorough_paths/thoroughpaths/service/Nodes", "numbers", "[I", (.ref na0))]) :: []) 31 #[.val (.int i0), .val (.int i1), .val (.int i2), .val (.int i3), .val (.int i4), .val (.int cp), .val (.int (3 : Int32)), .val (.int (0 : Int32)), .unset, .unset, .unset] [(.ref a1)]
  obtain ⟨ns0, he, l0⟩ : ∃ ns : List Int32, ns = List.replicate N0 0 ∧ ns.length = N0 := ⟨_, rfl, by simp⟩
  rw [← he]
  clear he
  have p0 : 0 ≤ ns0.length := Nat.zero_le _
  have k0 : ns0.length ≤ 100 := by omega
  have t0 : ns0.take 0 = [] := rfl
  show Go Z k 2 6 ((na0, ArI Z .int ns0) :: (a1, Obj Z "com/example/thorough_paths/thoroughpaths/service/Nodes" [("com/example/thorough_paths/thoroughpaths/service/Nodes", "size", "I", (.int (0 : Nat).toInt32)), ("com/example/thorough_paths/thoroughpaths/service/Nodes", "numbers", "[I", (.ref na0))]) :: []) 31 #[.val (.int i0), .val (.int i1), .val (.int i2), .val (.int i3), .val (.int i4), .val (.int cp), .val (.int (3 : Int32)), .val (.int (0 : Int32)), .unset, .unset, .unset] [(.ref a1)]
  refine s_astore H at_31 (L' := #[.val (.int i0), .val (.int i1), .val (.int i2), .val (.int i3), .val (.int i4), .val (.int cp), .val (.int (3 : Int32)), .val (.int (0 : Int32)), .val (.ref a1), .unset, .unset]) rfl rfl (pc' := 33) rfl ?_
  refine s_iload H at_33 rfl (pc' := 35) rfl ?_
  refine s_iconst H at_35 (z := (1 : Int32)) (by decide) (pc' := 36) rfl ?_
  refine s_icmp H at_36 (py := 45) (pc' := 39) q_lt (by decide) rfl (fun c36 => ?_) (fun c36 => ?_)
  · exact absurd c36 (by decide)
  · refine s_aload H at_39 rfl rfl (pc' := 41) rfl ?_
    refine s_iloadn H at_41 rfl (pc' := 42) rfl ?_
    refine s_virtual H (met_na H.tb a1 na0 ns0 ([] : List Int32) 0 i1 p0 (by decide) k0 t0) at_42 (i := 1) rfl (mem (i := 23) rfl) (mem (i := 24) rfl) (mem (i := 26) rfl) (mem (i := 25) rfl) (mem (i := 2) rfl) (mem (i := 27) rfl) (by decide) pd_5 rfl (rest := []) rfl rfl (by decide) (Nat.le_of_ble_eq_true rfl) (cn' := 3) (sn' := 10) rfl rfl (by decide) (by decide) (pc' := 45) rfl (fun _ _ hq => ?_)
    obtain ⟨na1, ns1, F1, p1, k1, t1', rfl, rfl⟩ := hq
    show Go Z k 3 10 ((na1, ArI Z .int ns1) :: (a1, Obj Z "com/example/thorough_paths/thoroughpaths/service/Nodes" [("com/example/thorough_paths/thoroughpaths/service/Nodes", "size", "I", (.int (1 : Nat).toInt32)), ("com/example/thorough_paths/thoroughpaths/service/Nodes", "numbers", "[I", (.ref na1))]) :: F1) 45 #[.val (.int i0), .val (.int i1), .val (.int i2), .val (.int i3), .val (.int i4), .val (.int cp), .val (.int (3 : Int32)), .val (.int (0 : Int32)), .val (.ref a1), .unset, .unset] []
    have t1 : ns1.take 1 = ([i1] : List Int32) := t1'
    refine s_iload H at_45 rfl (pc' := 47) rfl ?_
    refine s_iconst H at_47 (z := (2 : Int32)) (by decide) (pc' := 48) rfl ?_
    refine s_icmp H at_48 (py := 57) (pc' := 51) q_lt (by decide) rfl (fun c48 => ?_) (fun c48 => ?_)
    · exact absurd c48 (by decide)
    · refine s_aload H at_51 rfl rfl (pc' := 53) rfl ?_
      refine s_iloadn H at_53 rfl (pc' := 54) rfl ?_
      refine s_virtual H (met_na H.tb a1 na1 ns1 ([i1] : List Int32) 1 i2 p1 (by decide) k1 t1) at_54 (i := 1) rfl (mem (i := 23) rfl) (mem (i := 24) rfl) (mem (i := 26) rfl) (mem (i := 25) rfl) (mem (i := 2) rfl) (mem (i := 27) rfl) (by decide) pd_5 rfl (rest := []) rfl rfl (by decide) (Nat.le_of_ble_eq_true rfl) (cn' := 4) (sn' := 14) rfl rfl (by decide) (by decide) (pc' := 57) rfl (fun _ _ hq => ?_)
      obtain ⟨na2, ns2, F2, p2, k2, t2', rfl, rfl⟩ := hq
      show Go Z k 4 14 ((na2, ArI Z .int ns2) :: (a1, Obj Z "com/example/thorough_paths/thoroughpaths/service/Nodes" [("com/example/thorough_paths/thoroughpaths/service/Nodes", "size", "I", (.int (2 : Nat).toInt32)), ("com/example/thorough_paths/thoroughpaths/service/Nodes", "numbers", "[I", (.ref na2))]) :: F2) 57 #[.val (.int i0), .val (.int i1), .val (.int i2), .val (.int i3), .val (.int i4), .val (.int cp), .val (.int (3 : Int32)), .val (.int (0 : Int32)), .val (.ref a1), .unset, .unset] []
      have t2 : ns2.take 2 = ([i1, i2] : List Int32) := t2'
      refine s_iload H at_57 rfl (pc' := 59) rfl ?_
      refine s_iconst H at_59 (z := (3 : Int32)) (by decide) (pc' := 60) rfl ?_
      refine s_icmp H at_60 (py := 69) (pc' := 63) q_lt (by decide) rfl (fun c60 => ?_) (fun c60 => ?_)
      · exact absurd c60 (by decide)
      · refine s_aload H at_63 rfl rfl (pc' := 65) rfl ?_
        refine s_iloadn H at_65 rfl (pc' := 66) rfl ?_
        refine s_virtual H (met_na H.tb a1 na2 ns2 ([i1, i2] : List Int32) 2 i3 p2 (by decide) k2 t2) at_66 (i := 1) rfl (mem (i := 23) rfl) (mem (i := 24) rfl) (mem (i := 26) rfl) (mem (i := 25) rfl) (mem (i := 2) rfl) (mem (i := 27) rfl) (by decide) pd_5 rfl (rest := []) rfl rfl (by decide) (Nat.le_of_ble_eq_true rfl) (cn' := 5) (sn' := 18) rfl rfl (by decide) (by decide) (pc' := 69) rfl (fun _ _ hq => ?_)
        obtain ⟨na3, ns3, F3, p3, k3, t3', rfl, rfl⟩ := hq
        show Go Z k 5 18 ((na3, ArI Z .int ns3) :: (a1, Obj Z "com/example/thorough_paths/thoroughpaths/service/Nodes" [("com/example/thorough_paths/thoroughpaths/service/Nodes", "size", "I", (.int (3 : Nat).toInt32)), ("com/example/thorough_paths/thoroughpaths/service/Nodes", "numbers", "[I", (.ref na3))]) :: F3) 69 #[.val (.int i0), .val (.int i1), .val (.int i2), .val (.int i3), .val (.int i4), .val (.int cp), .val (.int (3 : Int32)), .val (.int (0 : Int32)), .val (.ref a1), .unset, .unset] []
        have t3 : ns3.take 3 = ([i1, i2, i3] : List Int32) := t3'
        refine s_iload H at_69 rfl (pc' := 71) rfl ?_
        refine s_if H at_71 (py := 80) (pc' := 74) z_ne (by decide) rfl (fun c71 => ?_) (fun c71 => ?_)
        · exact absurd c71 (by decide)
        · refine s_iloadn H at_74 rfl (pc' := 75) rfl ?_
          refine s_istore H at_75 (L' := fun z => #[.val (.int i0), .val (.int i1), .val (.int i2), .val (.int i3), .val (.int i4), .val (.int cp), .val (.int (3 : Int32)), .val (.int (0 : Int32)), .val (.ref a1), .val (.int z), .unset]) (fun _ => rfl) (pc' := 77) rfl (fun z0 hz => ?_)
          subst z0
          refine s_goto H at_77 (pc' := 108) (by decide) ?_
          refine s_iload H at_108 rfl (pc' := 110) rfl ?_
          refine s_iconst H at_110 (z := (1 : Int32)) (by decide) (pc' := 111) rfl ?_
          refine s_icmp H at_111 (py := 120) (pc' := 114) q_lt (by decide) rfl (fun c111 => ?_) (fun c111 => ?_)
          · exact absurd c111 (by decide)
          · refine s_iloadn H at_114 rfl (pc' := 115) rfl ?_
            refine s_iload H at_115 rfl (pc' := 117) rfl ?_
            refine s_icmp H at_117 (py := 144) (pc' := 120) q_eq (by decide) rfl (fun c117 => ?_) (fun c117 => ?_)
            · refine s_iconst H at_144 (z := (1 : Int32)) (by decide) (pc' := 145) rfl ?_
              refine s_goto H at_145 (pc' := 149) (by decide) ?_
              refine s_istore H at_149 (L' := fun z => #[.val (.int i0), .val (.int i1), .val (.int i2), .val (.int i3), .val (.int i4), .val (.int cp), .val (.int (3 : Int32)), .val (.int (0 : Int32)), .val (.ref a1), .val (.int i1), .val (.int z)]) (fun _ => rfl) (pc' := 151) rfl (fun z0 hz => ?_)
              subst z0
              refine s_aload H at_151 rfl rfl (pc' := 153) rfl ?_
              refine s_iload H at_153 rfl (pc' := 155) rfl ?_
              refine s_virtual H (met_nc H.tb a1 na3 ns3 3 i1 p3 k3) at_155 (i := 1) rfl (mem (i := 18) rfl) (mem (i := 19) rfl) (mem (i := 21) rfl) (mem (i := 20) rfl) (mem (i := 2) rfl) (mem (i := 22) rfl) (by decide) pd_4 rfl (rest := []) rfl rfl (by decide) (Nat.le_of_ble_eq_true rfl) (cn' := 5) (sn' := 18) rfl rfl (by decide) (by decide) (pc' := 158) rfl (fun _ _ hq => ?_)
              obtain ⟨rfl, rfl⟩ := hq
              show Go Z k 5 18 ((na3, ArI Z .int ns3) :: (a1, Obj Z "com/example/thorough_paths/thoroughpaths/service/Nodes" [("com/example/thorough_paths/thoroughpaths/service/Nodes", "size", "I", (.int (3 : Nat).toInt32)), ("com/example/thorough_paths/thoroughpaths/service/Nodes", "numbers", "[I", (.ref na3))]) :: F3) 158 #[.val (.int i0), .val (.int i1), .val (.int i2), .val (.int i3), .val (.int i4), .val (.int cp), .val (.int (3 : Int32)), .val (.int (0 : Int32)), .val (.ref a1), .val (.int i1), .val (.int (1 : Int32))] [(.int (if i1 ∈ ns3.take 3 then 1 else 0))]
              rw [t3]
              refine s_iload H at_158 rfl (pc' := 160) rfl ?_
              refine s_icmp H at_160 (py := 167) (pc' := 163) q_ne (by decide) rfl (fun c160 => ?_) (fun c160 => ?_)
              · refine s_iconst H at_167 (z := (0 : Int32)) (by decide) (pc' := 168) rfl ?_
                exfalso
                clear t0 t1 t1' t2 t2' t3 t3'
                simp_all [eq_comm]
              · refine s_iconst H at_163 (z := (1 : Int32)) (by decide) (pc' := 164) rfl ?_
                refine s_goto H at_164 (pc' := 168) (by decide) ?_
                exact s_iret H at_168 rfl (by simp) (by decide) (by decide) (rfl)
            · exact absurd rfl c117
set_option maxRecDepth 65536 in
set_option maxHeartbeats 40000000 in
theorem s22_3_1 {Z : State} {k : Cx} {i0 i1 i2 i3 i4 cp : Int32} (N0 : Nat) (H : Ok Z k room_1 (LQ) x code maxLocals ret) (hN : (N0 : Int) = max cp.toInt 1) (hN4 : N0 ≤ 4) : Go Z k 0 0 ([] : Hp) 22 #[.val (.int i0), .val (.int i1), .val (.int i2), .val (.int i3), .val (.int i4), .val (.int cp), .val (.int (3 : Int32)), .val (.int (1 : Int32)), .unset, .unset, .unset] [] := by
  refine s_new H (C := "com/example/thorough_paths/thoroughpaths/service/Nodes") [("com/example/thorough_paths/thoroughpaths/service/Nodes", "size", "I", (.int (0 : Int32))), ("com/example/thorough_paths/thoroughpaths/service/Nodes", "numbers", "[I", .null)] at_22 (mem (i := 0) rfl) (mem (i := 1) rfl) (mem (i := 2) rfl) (allC ⟨Or.inl (mem (i := 10) rfl), .int, by decide, rfl⟩ (allC ⟨Or.inl (mem (i := 17) rfl), (.array .int), by decide, rfl⟩ allN)) (by decide) (cn' := 1) (sn' := 2) rfl rfl (by decide) (by decide) (pc' := 25) rfl (fun a1 => ?_)
  refine s_dup H at_25 rfl (pc' := 26) rfl ?_
  refine s_iload H at_26 rfl (pc' := 28) rfl ?_
  refine s_init H (met_ni H.tb a1 cp N0 hN hN4) at_28 rfl (mem (i := 3) rfl) (mem (i := 4) rfl) (mem (i := 2) rfl) (mem (i := 5) rfl) (by decide) pd_1 rfl (rest := [(.ref a1)]) rfl rfl (by decide) (Nat.le_of_ble_eq_true rfl) (cn' := 2) (sn' := 6) rfl rfl (by decide) (by decide) (pc' := 31) rfl (fun _ _ hq => ?_)
  obtain ⟨na0, rfl, rfl⟩ := hq
  show Go Z k 2 6 ((na0, ArI Z .int (List.replicate N0 0)) :: (a1, Obj Z "com/example/thorough_paths/thoroughpaths/service/Nodes" [("com/example/thorough_paths/thoroughpaths/service/Nodes", "size", "I", (.int (0 : Nat).toInt32)), ("com/example/thorough_paths/thoroughpaths/service/Nodes", "numbers", "[I", (.ref na0))]) :: []) 31 #[.val (.int i0), .val (.int i1), .val (.int i2), .val (.int i3), .val (.int i4), .val (.int cp), .val (.int (3 : Int32)), .val (.int (1 : Int32)), .unset, .unset, .unset] [(.ref a1)]
  obtain ⟨ns0, he, l0⟩ : ∃ ns : List Int32, ns = List.replicate N0 0 ∧ ns.length = N0 := ⟨_, rfl, by simp⟩
  rw [← he]
  clear he
  have p0 : 0 ≤ ns0.length := Nat.zero_le _
  have k0 : ns0.length ≤ 100 := by omega
  have t0 : ns0.take 0 = [] := rfl
  show Go Z k 2 6 ((na0, ArI Z .int ns0) :: (a1, Obj Z "com/example/thorough_paths/thoroughpaths/service/Nodes" [("com/example/thorough_paths/thoroughpaths/service/Nodes", "size", "I", (.int (0 : Nat).toInt32)), ("com/example/thorough_paths/thoroughpaths/service/Nodes", "numbers", "[I", (.ref na0))]) :: []) 31 #[.val (.int i0), .val (.int i1), .val (.int i2), .val (.int i3), .val (.int i4), .val (.int cp), .val (.int (3 : Int32)), .val (.int (1 : Int32)), .unset, .unset, .unset] [(.ref a1)]
  refine s_astore H at_31 (L' := #[.val (.int i0), .val (.int i1), .val (.int i2), .val (.int i3), .val (.int i4), .val (.int cp), .val (.int (3 : Int32)), .val (.int (1 : Int32)), .val (.ref a1), .unset, .unset]) rfl rfl (pc' := 33) rfl ?_
  refine s_iload H at_33 rfl (pc' := 35) rfl ?_
  refine s_iconst H at_35 (z := (1 : Int32)) (by decide) (pc' := 36) rfl ?_
  refine s_icmp H at_36 (py := 45) (pc' := 39) q_lt (by decide) rfl (fun c36 => ?_) (fun c36 => ?_)
  · exact absurd c36 (by decide)
  · refine s_aload H at_39 rfl rfl (pc' := 41) rfl ?_
    refine s_iloadn H at_41 rfl (pc' := 42) rfl ?_
    refine s_virtual H (met_na H.tb a1 na0 ns0 ([] : List Int32) 0 i1 p0 (by decide) k0 t0) at_42 (i := 1) rfl (mem (i := 23) rfl) (mem (i := 24) rfl) (mem (i := 26) rfl) (mem (i := 25) rfl) (mem (i := 2) rfl) (mem (i := 27) rfl) (by decide) pd_5 rfl (rest := []) rfl rfl (by decide) (Nat.le_of_ble_eq_true rfl) (cn' := 3) (sn' := 10) rfl rfl (by decide) (by decide) (pc' := 45) rfl (fun _ _ hq => ?_)
    obtain ⟨na1, ns1, F1, p1, k1, t1', rfl, rfl⟩ := hq
    show Go Z k 3 10 ((na1, ArI Z .int ns1) :: (a1, Obj Z "com/example/thorough_paths/thoroughpaths/service/Nodes" [("com/example/thorough_paths/thoroughpaths/service/Nodes", "size", "I", (.int (1 : Nat).toInt32)), ("com/example/thorough_paths/thoroughpaths/service/Nodes", "numbers", "[I", (.ref na1))]) :: F1) 45 #[.val (.int i0), .val (.int i1), .val (.int i2), .val (.int i3), .val (.int i4), .val (.int cp), .val (.int (3 : Int32)), .val (.int (1 : Int32)), .val (.ref a1), .unset, .unset] []
    have t1 : ns1.take 1 = ([i1] : List Int32) := t1'
    refine s_iload H at_45 rfl (pc' := 47) rfl ?_
    refine s_iconst H at_47 (z := (2 : Int32)) (by decide) (pc' := 48) rfl ?_
    refine s_icmp H at_48 (py := 57) (pc' := 51) q_lt (by decide) rfl (fun c48 => ?_) (fun c48 => ?_)
    · exact absurd c48 (by decide)
    · refine s_aload H at_51 rfl rfl (pc' := 53) rfl ?_
      refine s_iloadn H at_53 rfl (pc' := 54) rfl ?_
      refine s_virtual H (met_na H.tb a1 na1 ns1 ([i1] : List Int32) 1 i2 p1 (by decide) k1 t1) at_54 (i := 1) rfl (mem (i := 23) rfl) (mem (i := 24) rfl) (mem (i := 26) rfl) (mem (i := 25) rfl) (mem (i := 2) rfl) (mem (i := 27) rfl) (by decide) pd_5 rfl (rest := []) rfl rfl (by decide) (Nat.le_of_ble_eq_true rfl) (cn' := 4) (sn' := 14) rfl rfl (by decide) (by decide) (pc' := 57) rfl (fun _ _ hq => ?_)
      obtain ⟨na2, ns2, F2, p2, k2, t2', rfl, rfl⟩ := hq
      show Go Z k 4 14 ((na2, ArI Z .int ns2) :: (a1, Obj Z "com/example/thorough_paths/thoroughpaths/service/Nodes" [("com/example/thorough_paths/thoroughpaths/service/Nodes", "size", "I", (.int (2 : Nat).toInt32)), ("com/example/thorough_paths/thoroughpaths/service/Nodes", "numbers", "[I", (.ref na2))]) :: F2) 57 #[.val (.int i0), .val (.int i1), .val (.int i2), .val (.int i3), .val (.int i4), .val (.int cp), .val (.int (3 : Int32)), .val (.int (1 : Int32)), .val (.ref a1), .unset, .unset] []
      have t2 : ns2.take 2 = ([i1, i2] : List Int32) := t2'
      refine s_iload H at_57 rfl (pc' := 59) rfl ?_
      refine s_iconst H at_59 (z := (3 : Int32)) (by decide) (pc' := 60) rfl ?_
      refine s_icmp H at_60 (py := 69) (pc' := 63) q_lt (by decide) rfl (fun c60 => ?_) (fun c60 => ?_)
      · exact absurd c60 (by decide)
      · refine s_aload H at_63 rfl rfl (pc' := 65) rfl ?_
        refine s_iloadn H at_65 rfl (pc' := 66) rfl ?_
        refine s_virtual H (met_na H.tb a1 na2 ns2 ([i1, i2] : List Int32) 2 i3 p2 (by decide) k2 t2) at_66 (i := 1) rfl (mem (i := 23) rfl) (mem (i := 24) rfl) (mem (i := 26) rfl) (mem (i := 25) rfl) (mem (i := 2) rfl) (mem (i := 27) rfl) (by decide) pd_5 rfl (rest := []) rfl rfl (by decide) (Nat.le_of_ble_eq_true rfl) (cn' := 5) (sn' := 18) rfl rfl (by decide) (by decide) (pc' := 69) rfl (fun _ _ hq => ?_)
        obtain ⟨na3, ns3, F3, p3, k3, t3', rfl, rfl⟩ := hq
        show Go Z k 5 18 ((na3, ArI Z .int ns3) :: (a1, Obj Z "com/example/thorough_paths/thoroughpaths/service/Nodes" [("com/example/thorough_paths/thoroughpaths/service/Nodes", "size", "I", (.int (3 : Nat).toInt32)), ("com/example/thorough_paths/thoroughpaths/service/Nodes", "numbers", "[I", (.ref na3))]) :: F3) 69 #[.val (.int i0), .val (.int i1), .val (.int i2), .val (.int i3), .val (.int i4), .val (.int cp), .val (.int (3 : Int32)), .val (.int (1 : Int32)), .val (.ref a1), .unset, .unset] []
        have t3 : ns3.take 3 = ([i1, i2, i3] : List Int32) := t3'
        refine s_iload H at_69 rfl (pc' := 71) rfl ?_
        refine s_if H at_71 (py := 80) (pc' := 74) z_ne (by decide) rfl (fun c71 => ?_) (fun c71 => ?_)
        · refine s_iload H at_80 rfl (pc' := 82) rfl ?_
          refine s_iconst H at_82 (z := (1 : Int32)) (by decide) (pc' := 83) rfl ?_
          refine s_icmp H at_83 (py := 92) (pc' := 86) q_ne (by decide) rfl (fun c83 => ?_) (fun c83 => ?_)
          · exact absurd c83 (by decide)
          · refine s_iloadn H at_86 rfl (pc' := 87) rfl ?_
            refine s_istore H at_87 (L' := fun z => #[.val (.int i0), .val (.int i1), .val (.int i2), .val (.int i3), .val (.int i4), .val (.int cp), .val (.int (3 : Int32)), .val (.int (1 : Int32)), .val (.ref a1), .val (.int z), .unset]) (fun _ => rfl) (pc' := 89) rfl (fun z0 hz => ?_)
            subst z0
            refine s_goto H at_89 (pc' := 108) (by decide) ?_
            refine s_iload H at_108 rfl (pc' := 110) rfl ?_
            refine s_iconst H at_110 (z := (1 : Int32)) (by decide) (pc' := 111) rfl ?_
            refine s_icmp H at_111 (py := 120) (pc' := 114) q_lt (by decide) rfl (fun c111 => ?_) (fun c111 => ?_)
            · exact absurd c111 (by decide)
            · refine s_iloadn H at_114 rfl (pc' := 115) rfl ?_
              refine s_iload H at_115 rfl (pc' := 117) rfl ?_
              refine s_icmp H at_117 (py := 144) (pc' := 120) q_eq (by decide) rfl (fun c117 => ?_) (fun c117 => ?_)
              · refine s_iconst H at_144 (z := (1 : Int32)) (by decide) (pc' := 145) rfl ?_
                refine s_goto H at_145 (pc' := 149) (by decide) ?_
                refine s_istore H at_149 (L' := fun z => #[.val (.int i0), .val (.int i1), .val (.int i2), .val (.int i3), .val (.int i4), .val (.int cp), .val (.int (3 : Int32)), .val (.int (1 : Int32)), .val (.ref a1), .val (.int i2), .val (.int z)]) (fun _ => rfl) (pc' := 151) rfl (fun z0 hz => ?_)
                subst z0
                refine s_aload H at_151 rfl rfl (pc' := 153) rfl ?_
                refine s_iload H at_153 rfl (pc' := 155) rfl ?_
                refine s_virtual H (met_nc H.tb a1 na3 ns3 3 i2 p3 k3) at_155 (i := 1) rfl (mem (i := 18) rfl) (mem (i := 19) rfl) (mem (i := 21) rfl) (mem (i := 20) rfl) (mem (i := 2) rfl) (mem (i := 22) rfl) (by decide) pd_4 rfl (rest := []) rfl rfl (by decide) (Nat.le_of_ble_eq_true rfl) (cn' := 5) (sn' := 18) rfl rfl (by decide) (by decide) (pc' := 158) rfl (fun _ _ hq => ?_)
                obtain ⟨rfl, rfl⟩ := hq
                show Go Z k 5 18 ((na3, ArI Z .int ns3) :: (a1, Obj Z "com/example/thorough_paths/thoroughpaths/service/Nodes" [("com/example/thorough_paths/thoroughpaths/service/Nodes", "size", "I", (.int (3 : Nat).toInt32)), ("com/example/thorough_paths/thoroughpaths/service/Nodes", "numbers", "[I", (.ref na3))]) :: F3) 158 #[.val (.int i0), .val (.int i1), .val (.int i2), .val (.int i3), .val (.int i4), .val (.int cp), .val (.int (3 : Int32)), .val (.int (1 : Int32)), .val (.ref a1), .val (.int i2), .val (.int (1 : Int32))] [(.int (if i2 ∈ ns3.take 3 then 1 else 0))]
                rw [t3]
                refine s_iload H at_158 rfl (pc' := 160) rfl ?_
                refine s_icmp H at_160 (py := 167) (pc' := 163) q_ne (by decide) rfl (fun c160 => ?_) (fun c160 => ?_)
                · refine s_iconst H at_167 (z := (0 : Int32)) (by decide) (pc' := 168) rfl ?_
                  exfalso
                  clear t0 t1 t1' t2 t2' t3 t3'
                  simp_all [eq_comm]
                · refine s_iconst H at_163 (z := (1 : Int32)) (by decide) (pc' := 164) rfl ?_
                  refine s_goto H at_164 (pc' := 168) (by decide) ?_
                  exact s_iret H at_168 rfl (by simp) (by decide) (by decide) (rfl)
              · refine s_iload H at_120 rfl (pc' := 122) rfl ?_
                refine s_iconst H at_122 (z := (2 : Int32)) (by decide) (pc' := 123) rfl ?_
                refine s_icmp H at_123 (py := 132) (pc' := 126) q_lt (by decide) rfl (fun c123 => ?_) (fun c123 => ?_)
                · exact absurd c123 (by decide)
                · refine s_iloadn H at_126 rfl (pc' := 127) rfl ?_
                  refine s_iload H at_127 rfl (pc' := 129) rfl ?_
                  refine s_icmp H at_129 (py := 144) (pc' := 132) q_eq (by decide) rfl (fun c129 => ?_) (fun c129 => ?_)
                  · refine s_iconst H at_144 (z := (1 : Int32)) (by decide) (pc' := 145) rfl ?_
                    refine s_goto H at_145 (pc' := 149) (by decide) ?_
                    refine s_istore H at_149 (L' := fun z => #[.val (.int i0), .val (.int i1), .val (.int i2), .val (.int i3), .val (.int i4), .val (.int cp), .val (.int (3 : Int32)), .val (.int (1 : Int32)), .val (.ref a1), .val (.int i2), .val (.int z)]) (fun _ => rfl) (pc' := 151) rfl (fun z0 hz => ?_)
                    subst z0
                    refine s_aload H at_151 rfl rfl (pc' := 153) rfl ?_
                    refine s_iload H at_153 rfl (pc' := 155) rfl ?_
                    refine s_virtual H (met_nc H.tb a1 na3 ns3 3 i2 p3 k3) at_155 (i := 1) rfl (mem (i := 18) rfl) (mem (i := 19) rfl) (mem (i := 21) rfl) (mem (i := 20) rfl) (mem (i := 2) rfl) (mem (i := 22) rfl) (by decide) pd_4 rfl (rest := []) rfl rfl (by decide) (Nat.le_of_ble_eq_true rfl) (cn' := 5) (sn' := 18) rfl rfl (by decide) (by decide) (pc' := 158) rfl (fun _ _ hq => ?_)
                    obtain ⟨rfl, rfl⟩ := hq
                    show Go Z k 5 18 ((na3, ArI Z .int ns3) :: (a1, Obj Z "com/example/thorough_paths/thoroughpaths/service/Nodes" [("com/example/thorough_paths/thoroughpaths/service/Nodes", "size", "I", (.int (3 : Nat).toInt32)), ("com/example/thorough_paths/thoroughpaths/service/Nodes", "numbers", "[I", (.ref na3))]) :: F3) 158 #[.val (.int i0), .val (.int i1), .val (.int i2), .val (.int i3), .val (.int i4), .val (.int cp), .val (.int (3 : Int32)), .val (.int (1 : Int32)), .val (.ref a1), .val (.int i2), .val (.int (1 : Int32))] [(.int (if i2 ∈ ns3.take 3 then 1 else 0))]
                    rw [t3]
                    refine s_iload H at_158 rfl (pc' := 160) rfl ?_
                    refine s_icmp H at_160 (py := 167) (pc' := 163) q_ne (by decide) rfl (fun c160 => ?_) (fun c160 => ?_)
                    · refine s_iconst H at_167 (z := (0 : Int32)) (by decide) (pc' := 168) rfl ?_
                      exfalso
                      clear t0 t1 t1' t2 t2' t3 t3'
                      simp_all [eq_comm]
                    · refine s_iconst H at_163 (z := (1 : Int32)) (by decide) (pc' := 164) rfl ?_
                      refine s_goto H at_164 (pc' := 168) (by decide) ?_
                      exact s_iret H at_168 rfl (by simp) (by decide) (by decide) (rfl)
                  · exact absurd rfl c129
        · exact absurd c71 (by decide)
set_option maxRecDepth 65536 in
set_option maxHeartbeats 40000000 in
theorem s22_3_2 {Z : State} {k : Cx} {i0 i1 i2 i3 i4 cp : Int32} (N0 : Nat) (H : Ok Z k room_1 (LQ) x code maxLocals ret) (hN : (N0 : Int) = max cp.toInt 1) (hN4 : N0 ≤ 4) : Go Z k 0 0 ([] : Hp) 22 #[.val (.int i0), .val (.int i1), .val (.int i2), .val (.int i3), .val (.int i4), .val (.int cp), .val (.int (3 : Int32)), .val (.int (2 : Int32)), .unset, .unset, .unset] [] := by
  refine s_new H (C := "com/example/thorough_paths/thoroughpaths/service/Nodes") [("com/example/thorough_paths/thoroughpaths/service/Nodes", "size", "I", (.int (0 : Int32))), ("com/example/thorough_paths/thoroughpaths/service/Nodes", "numbers", "[I", .null)] at_22 (mem (i := 0) rfl) (mem (i := 1) rfl) (mem (i := 2) rfl) (allC ⟨Or.inl (mem (i := 10) rfl), .int, by decide, rfl⟩ (allC ⟨Or.inl (mem (i := 17) rfl), (.array .int), by decide, rfl⟩ allN)) (by decide) (cn' := 1) (sn' := 2) rfl rfl (by decide) (by decide) (pc' := 25) rfl (fun a1 => ?_)
  refine s_dup H at_25 rfl (pc' := 26) rfl ?_
  refine s_iload H at_26 rfl (pc' := 28) rfl ?_
  refine s_init H (met_ni H.tb a1 cp N0 hN hN4) at_28 rfl (mem (i := 3) rfl) (mem (i := 4) rfl) (mem (i := 2) rfl) (mem (i := 5) rfl) (by decide) pd_1 rfl (rest := [(.ref a1)]) rfl rfl (by decide) (Nat.le_of_ble_eq_true rfl) (cn' := 2) (sn' := 6) rfl rfl (by decide) (by decide) (pc' := 31) rfl (fun _ _ hq => ?_)
  obtain ⟨na0, rfl, rfl⟩ := hq
  show Go Z k 2 6 ((na0, ArI Z .int (List.replicate N0 0)) :: (a1, Obj Z "com/example/thorough_paths/thoroughpaths/service/Nodes" [("com/example/thorough_paths/thoroughpaths/service/Nodes", "size", "I", (.int (0 : Nat).toInt32)), ("com/example/thorough_paths/thoroughpaths/service/Nodes", "numbers", "[I", (.ref na0))]) :: []) 31 #[.val (.int i0), .val (.int i1), .val (.int i2), .val (.int i3), .val (.int i4), .val (.int cp), .val (.int (3 : Int32)), .val (.int (2 : Int32)), .unset, .unset, .unset] [(.ref a1)]
  obtain ⟨ns0, he, l0⟩ : ∃ ns : List Int32, ns = List.replicate N0 0 ∧ ns.length = N0 := ⟨_, rfl, by simp⟩
  rw [← he]
  clear he
  have p0 : 0 ≤ ns0.length := Nat.zero_le _
  have k0 : ns0.length ≤ 100 := by omega
  have t0 : ns0.take 0 = [] := rfl
  show Go Z k 2 6 ((na0, ArI Z .int ns0) :: (a1, Obj Z "com/example/thorough_paths/thoroughpaths/service/Nodes" [("com/example/thorough_paths/thoroughpaths/service/Nodes", "size", "I", (.int (0 : Nat).toInt32)), ("com/example/thorough_paths/thoroughpaths/service/Nodes", "numbers", "[I", (.ref na0))]) :: []) 31 #[.val (.int i0), .val (.int i1), .val (.int i2), .val (.int i3), .val (.int i4), .val (.int cp), .val (.int (3 : Int32)), .val (.int (2 : Int32)), .unset, .unset, .unset] [(.ref a1)]
  refine s_astore H at_31 (L' := #[.val (.int i0), .val (.int i1), .val (.int i2), .val (.int i3), .val (.int i4), .val (.int cp), .val (.int (3 : Int32)), .val (.int (2 : Int32)), .val (.ref a1), .unset, .unset]) rfl rfl (pc' := 33) rfl ?_
  refine s_iload H at_33 rfl (pc' := 35) rfl ?_
  refine s_iconst H at_35 (z := (1 : Int32)) (by decide) (pc' := 36) rfl ?_
  refine s_icmp H at_36 (py := 45) (pc' := 39) q_lt (by decide) rfl (fun c36 => ?_) (fun c36 => ?_)
  · exact absurd c36 (by decide)
  · refine s_aload H at_39 rfl rfl (pc' := 41) rfl ?_
    refine s_iloadn H at_41 rfl (pc' := 42) rfl ?_
    refine s_virtual H (met_na H.tb a1 na0 ns0 ([] : List Int32) 0 i1 p0 (by decide) k0 t0) at_42 (i := 1) rfl (mem (i := 23) rfl) (mem (i := 24) rfl) (mem (i := 26) rfl) (mem (i := 25) rfl) (mem (i := 2) rfl) (mem (i := 27) rfl) (by decide) pd_5 rfl (rest := []) rfl rfl (by decide) (Nat.le_of_ble_eq_true rfl) (cn' := 3) (sn' := 10) rfl rfl (by decide) (by decide) (pc' := 45) rfl (fun _ _ hq => ?_)
    obtain ⟨na1, ns1, F1, p1, k1, t1', rfl, rfl⟩ := hq
    show Go Z k 3 10 ((na1, ArI Z .int ns1) :: (a1, Obj Z "com/example/thorough_paths/thoroughpaths/service/Nodes" [("com/example/thorough_paths/thoroughpaths/service/Nodes", "size", "I", (.int (1 : Nat).toInt32)), ("com/example/thorough_paths/thoroughpaths/service/Nodes", "numbers", "[I", (.ref na1))]) :: F1) 45 #[.val (.int i0), .val (.int i1), .val (.int i2), .val (.int i3), .val (.int i4), .val (.int cp), .val (.int (3 : Int32)), .val (.int (2 : Int32)), .val (.ref a1), .unset, .unset] []
    have t1 : ns1.take 1 = ([i1] : List Int32) := t1'
    refine s_iload H at_45 rfl (pc' := 47) rfl ?_
    refine s_iconst H at_47 (z := (2 : Int32)) (by decide) (pc' := 48) rfl ?_
    refine s_icmp H at_48 (py := 57) (pc' := 51) q_lt (by decide) rfl (fun c48 => ?_) (fun c48 => ?_)
    · exact absurd c48 (by decide)
    · refine s_aload H at_51 rfl rfl (pc' := 53) rfl ?_
      refine s_iloadn H at_53 rfl (pc' := 54) rfl ?_
      refine s_virtual H (met_na H.tb a1 na1 ns1 ([i1] : List Int32) 1 i2 p1 (by decide) k1 t1) at_54 (i := 1) rfl (mem (i := 23) rfl) (mem (i := 24) rfl) (mem (i := 26) rfl) (mem (i := 25) rfl) (mem (i := 2) rfl) (mem (i := 27) rfl) (by decide) pd_5 rfl (rest := []) rfl rfl (by decide) (Nat.le_of_ble_eq_true rfl) (cn' := 4) (sn' := 14) rfl rfl (by decide) (by decide) (pc' := 57) rfl (fun _ _ hq => ?_)
      obtain ⟨na2, ns2, F2, p2, k2, t2', rfl, rfl⟩ := hq
      show Go Z k 4 14 ((na2, ArI Z .int ns2) :: (a1, Obj Z "com/example/thorough_paths/thoroughpaths/service/Nodes" [("com/example/thorough_paths/thoroughpaths/service/Nodes", "size", "I", (.int (2 : Nat).toInt32)), ("com/example/thorough_paths/thoroughpaths/service/Nodes", "numbers", "[I", (.ref na2))]) :: F2) 57 #[.val (.int i0), .val (.int i1), .val (.int i2), .val (.int i3), .val (.int i4), .val (.int cp), .val (.int (3 : Int32)), .val (.int (2 : Int32)), .val (.ref a1), .unset, .unset] []
      have t2 : ns2.take 2 = ([i1, i2] : List Int32) := t2'
      refine s_iload H at_57 rfl (pc' := 59) rfl ?_
      refine s_iconst H at_59 (z := (3 : Int32)) (by decide) (pc' := 60) rfl ?_
      refine s_icmp H at_60 (py := 69) (pc' := 63) q_lt (by decide) rfl (fun c60 => ?_) (fun c60 => ?_)
      · exact absurd c60 (by decide)
      · refine s_aload H at_63 rfl rfl (pc' := 65) rfl ?_
        refine s_iloadn H at_65 rfl (pc' := 66) rfl ?_
        refine s_virtual H (met_na H.tb a1 na2 ns2 ([i1, i2] : List Int32) 2 i3 p2 (by decide) k2 t2) at_66 (i := 1) rfl (mem (i := 23) rfl) (mem (i := 24) rfl) (mem (i := 26) rfl) (mem (i := 25) rfl) (mem (i := 2) rfl) (mem (i := 27) rfl) (by decide) pd_5 rfl (rest := []) rfl rfl (by decide) (Nat.le_of_ble_eq_true rfl) (cn' := 5) (sn' := 18) rfl rfl (by decide) (by decide) (pc' := 69) rfl (fun _ _ hq => ?_)
        obtain ⟨na3, ns3, F3, p3, k3, t3', rfl, rfl⟩ := hq
        show Go Z k 5 18 ((na3, ArI Z .int ns3) :: (a1, Obj Z "com/example/thorough_paths/thoroughpaths/service/Nodes" [("com/example/thorough_paths/thoroughpaths/service/Nodes", "size", "I", (.int (3 : Nat).toInt32)), ("com/example/thorough_paths/thoroughpaths/service/Nodes", "numbers", "[I", (.ref na3))]) :: F3) 69 #[.val (.int i0), .val (.int i1), .val (.int i2), .val (.int i3), .val (.int i4), .val (.int cp), .val (.int (3 : Int32)), .val (.int (2 : Int32)), .val (.ref a1), .unset, .unset] []
        have t3 : ns3.take 3 = ([i1, i2, i3] : List Int32) := t3'
        refine s_iload H at_69 rfl (pc' := 71) rfl ?_
        refine s_if H at_71 (py := 80) (pc' := 74) z_ne (by decide) rfl (fun c71 => ?_) (fun c71 => ?_)
        · refine s_iload H at_80 rfl (pc' := 82) rfl ?_
          refine s_iconst H at_82 (z := (1 : Int32)) (by decide) (pc' := 83) rfl ?_
          refine s_icmp H at_83 (py := 92) (pc' := 86) q_ne (by decide) rfl (fun c83 => ?_) (fun c83 => ?_)
          · refine s_iload H at_92 rfl (pc' := 94) rfl ?_
            refine s_iconst H at_94 (z := (2 : Int32)) (by decide) (pc' := 95) rfl ?_
            refine s_icmp H at_95 (py := 104) (pc' := 98) q_ne (by decide) rfl (fun c95 => ?_) (fun c95 => ?_)
            · exact absurd c95 (by decide)
            · refine s_iloadn H at_98 rfl (pc' := 99) rfl ?_
              refine s_istore H at_99 (L' := fun z => #[.val (.int i0), .val (.int i1), .val (.int i2), .val (.int i3), .val (.int i4), .val (.int cp), .val (.int (3 : Int32)), .val (.int (2 : Int32)), .val (.ref a1), .val (.int z), .unset]) (fun _ => rfl) (pc' := 101) rfl (fun z0 hz => ?_)
              subst z0
              refine s_goto H at_101 (pc' := 108) (by decide) ?_
              refine s_iload H at_108 rfl (pc' := 110) rfl ?_
              refine s_iconst H at_110 (z := (1 : Int32)) (by decide) (pc' := 111) rfl ?_
              refine s_icmp H at_111 (py := 120) (pc' := 114) q_lt (by decide) rfl (fun c111 => ?_) (fun c111 => ?_)
              · exact absurd c111 (by decide)
              · refine s_iloadn H at_114 rfl (pc' := 115) rfl ?_
                refine s_iload H at_115 rfl (pc' := 117) rfl ?_
                refine s_icmp H at_117 (py := 144) (pc' := 120) q_eq (by decide) rfl (fun c117 => ?_) (fun c117 => ?_)
                · refine s_iconst H at_144 (z := (1 : Int32)) (by decide) (pc' := 145) rfl ?_
                  refine s_goto H at_145 (pc' := 149) (by decide) ?_
                  refine s_istore H at_149 (L' := fun z => #[.val (.int i0), .val (.int i1), .val (.int i2), .val (.int i3), .val (.int i4), .val (.int cp), .val (.int (3 : Int32)), .val (.int (2 : Int32)), .val (.ref a1), .val (.int i3), .val (.int z)]) (fun _ => rfl) (pc' := 151) rfl (fun z0 hz => ?_)
                  subst z0
                  refine s_aload H at_151 rfl rfl (pc' := 153) rfl ?_
                  refine s_iload H at_153 rfl (pc' := 155) rfl ?_
                  refine s_virtual H (met_nc H.tb a1 na3 ns3 3 i3 p3 k3) at_155 (i := 1) rfl (mem (i := 18) rfl) (mem (i := 19) rfl) (mem (i := 21) rfl) (mem (i := 20) rfl) (mem (i := 2) rfl) (mem (i := 22) rfl) (by decide) pd_4 rfl (rest := []) rfl rfl (by decide) (Nat.le_of_ble_eq_true rfl) (cn' := 5) (sn' := 18) rfl rfl (by decide) (by decide) (pc' := 158) rfl (fun _ _ hq => ?_)
                  obtain ⟨rfl, rfl⟩ := hq
                  show Go Z k 5 18 ((na3, ArI Z .int ns3) :: (a1, Obj Z "com/example/thorough_paths/thoroughpaths/service/Nodes" [("com/example/thorough_paths/thoroughpaths/service/Nodes", "size", "I", (.int (3 : Nat).toInt32)), ("com/example/thorough_paths/thoroughpaths/service/Nodes", "numbers", "[I", (.ref na3))]) :: F3) 158 #[.val (.int i0), .val (.int i1), .val (.int i2), .val (.int i3), .val (.int i4), .val (.int cp), .val (.int (3 : Int32)), .val (.int (2 : Int32)), .val (.ref a1), .val (.int i3), .val (.int (1 : Int32))] [(.int (if i3 ∈ ns3.take 3 then 1 else 0))]
                  rw [t3]
                  refine s_iload H at_158 rfl (pc' := 160) rfl ?_
                  refine s_icmp H at_160 (py := 167) (pc' := 163) q_ne (by decide) rfl (fun c160 => ?_) (fun c160 => ?_)
                  · refine s_iconst H at_167 (z := (0 : Int32)) (by decide) (pc' := 168) rfl ?_
                    exfalso
                    clear t0 t1 t1' t2 t2' t3 t3'
                    simp_all [eq_comm]
                  · refine s_iconst H at_163 (z := (1 : Int32)) (by decide) (pc' := 164) rfl ?_
                    refine s_goto H at_164 (pc' := 168) (by decide) ?_
                    exact s_iret H at_168 rfl (by simp) (by decide) (by decide) (rfl)
                · refine s_iload H at_120 rfl (pc' := 122) rfl ?_
                  refine s_iconst H at_122 (z := (2 : Int32)) (by decide) (pc' := 123) rfl ?_
                  refine s_icmp H at_123 (py := 132) (pc' := 126) q_lt (by decide) rfl (fun c123 => ?_) (fun c123 => ?_)
                  · exact absurd c123 (by decide)
                  · refine s_iloadn H at_126 rfl (pc' := 127) rfl ?_
                    refine s_iload H at_127 rfl (pc' := 129) rfl ?_
                    refine s_icmp H at_129 (py := 144) (pc' := 132) q_eq (by decide) rfl (fun c129 => ?_) (fun c129 => ?_)
                    · refine s_iconst H at_144 (z := (1 : Int32)) (by decide) (pc' := 145) rfl ?_
                      refine s_goto H at_145 (pc' := 149) (by decide) ?_
                      refine s_istore H at_149 (L' := fun z => #[.val (.int i0), .val (.int i1), .val (.int i2), .val (.int i3), .val (.int i4), .val (.int cp), .val (.int (3 : Int32)), .val (.int (2 : Int32)), .val (.ref a1), .val (.int i3), .val (.int z)]) (fun _ => rfl) (pc' := 151) rfl (fun z0 hz => ?_)
                      subst z0
                      refine s_aload H at_151 rfl rfl (pc' := 153) rfl ?_
                      refine s_iload H at_153 rfl (pc' := 155) rfl ?_
                      refine s_virtual H (met_nc H.tb a1 na3 ns3 3 i3 p3 k3) at_155 (i := 1) rfl (mem (i := 18) rfl) (mem (i := 19) rfl) (mem (i := 21) rfl) (mem (i := 20) rfl) (mem (i := 2) rfl) (mem (i := 22) rfl) (by decide) pd_4 rfl (rest := []) rfl rfl (by decide) (Nat.le_of_ble_eq_true rfl) (cn' := 5) (sn' := 18) rfl rfl (by decide) (by decide) (pc' := 158) rfl (fun _ _ hq => ?_)
                      obtain ⟨rfl, rfl⟩ := hq
                      show Go Z k 5 18 ((na3, ArI Z .int ns3) :: (a1, Obj Z "com/example/thorough_paths/thoroughpaths/service/Nodes" [("com/example/thorough_paths/thoroughpaths/service/Nodes", "size", "I", (.int (3 : Nat).toInt32)), ("com/example/thorough_paths/thoroughpaths/service/Nodes", "numbers", "[I", (.ref na3))]) :: F3) 158 #[.val (.int i0), .val (.int i1), .val (.int i2), .val (.int i3), .val (.int i4), .val (.int cp), .val (.int (3 : Int32)), .val (.int (2 : Int32)), .val (.ref a1), .val (.int i3), .val (.int (1 : Int32))] [(.int (if i3 ∈ ns3.take 3 then 1 else 0))]
                      rw [t3]
                      refine s_iload H at_158 rfl (pc' := 160) rfl ?_
                      refine s_icmp H at_160 (py := 167) (pc' := 163) q_ne (by decide) rfl (fun c160 => ?_) (fun c160 => ?_)
                      · refine s_iconst H at_167 (z := (0 : Int32)) (by decide) (pc' := 168) rfl ?_
                        exfalso
                        clear t0 t1 t1' t2 t2' t3 t3'
                        simp_all [eq_comm]
                      · refine s_iconst H at_163 (z := (1 : Int32)) (by decide) (pc' := 164) rfl ?_
                        refine s_goto H at_164 (pc' := 168) (by decide) ?_
                        exact s_iret H at_168 rfl (by simp) (by decide) (by decide) (rfl)
                    · refine s_iload H at_132 rfl (pc' := 134) rfl ?_
                      refine s_iconst H at_134 (z := (3 : Int32)) (by decide) (pc' := 135) rfl ?_
                      refine s_icmp H at_135 (py := 148) (pc' := 138) q_lt (by decide) rfl (fun c135 => ?_) (fun c135 => ?_)
                      · exact absurd c135 (by decide)
                      · refine s_iloadn H at_138 rfl (pc' := 139) rfl ?_
                        refine s_iload H at_139 rfl (pc' := 141) rfl ?_
                        refine s_icmp H at_141 (py := 148) (pc' := 144) q_ne (by decide) rfl (fun c141 => ?_) (fun c141 => ?_)
                        · exact absurd rfl c141
                        · refine s_iconst H at_144 (z := (1 : Int32)) (by decide) (pc' := 145) rfl ?_
                          refine s_goto H at_145 (pc' := 149) (by decide) ?_
                          refine s_istore H at_149 (L' := fun z => #[.val (.int i0), .val (.int i1), .val (.int i2), .val (.int i3), .val (.int i4), .val (.int cp), .val (.int (3 : Int32)), .val (.int (2 : Int32)), .val (.ref a1), .val (.int i3), .val (.int z)]) (fun _ => rfl) (pc' := 151) rfl (fun z0 hz => ?_)
                          subst z0
                          refine s_aload H at_151 rfl rfl (pc' := 153) rfl ?_
                          refine s_iload H at_153 rfl (pc' := 155) rfl ?_
                          refine s_virtual H (met_nc H.tb a1 na3 ns3 3 i3 p3 k3) at_155 (i := 1) rfl (mem (i := 18) rfl) (mem (i := 19) rfl) (mem (i := 21) rfl) (mem (i := 20) rfl) (mem (i := 2) rfl) (mem (i := 22) rfl) (by decide) pd_4 rfl (rest := []) rfl rfl (by decide) (Nat.le_of_ble_eq_true rfl) (cn' := 5) (sn' := 18) rfl rfl (by decide) (by decide) (pc' := 158) rfl (fun _ _ hq => ?_)
                          obtain ⟨rfl, rfl⟩ := hq
                          show Go Z k 5 18 ((na3, ArI Z .int ns3) :: (a1, Obj Z "com/example/thorough_paths/thoroughpaths/service/Nodes" [("com/example/thorough_paths/thoroughpaths/service/Nodes", "size", "I", (.int (3 : Nat).toInt32)), ("com/example/thorough_paths/thoroughpaths/service/Nodes", "numbers", "[I", (.ref na3))]) :: F3) 158 #[.val (.int i0), .val (.int i1), .val (.int i2), .val (.int i3), .val (.int i4), .val (.int cp), .val (.int (3 : Int32)), .val (.int (2 : Int32)), .val (.ref a1), .val (.int i3), .val (.int (1 : Int32))] [(.int (if i3 ∈ ns3.take 3 then 1 else 0))]
                          rw [t3]
                          refine s_iload H at_158 rfl (pc' := 160) rfl ?_
                          refine s_icmp H at_160 (py := 167) (pc' := 163) q_ne (by decide) rfl (fun c160 => ?_) (fun c160 => ?_)
                          · refine s_iconst H at_167 (z := (0 : Int32)) (by decide) (pc' := 168) rfl ?_
                            exfalso
                            clear t0 t1 t1' t2 t2' t3 t3'
                            simp_all [eq_comm]
                          · refine s_iconst H at_163 (z := (1 : Int32)) (by decide) (pc' := 164) rfl ?_
                            refine s_goto H at_164 (pc' := 168) (by decide) ?_
                            exact s_iret H at_168 rfl (by simp) (by decide) (by decide) (rfl)
          · exact absurd c83 (by decide)
        · exact absurd c71 (by decide)
set_option maxRecDepth 65536 in
set_option maxHeartbeats 40000000 in
theorem s22_3_3 {Z : State} {k : Cx} {i0 i1 i2 i3 i4 cp : Int32} (N0 : Nat) (H : Ok Z k room_1 (LQ) x code maxLocals ret) (hN : (N0 : Int) = max cp.toInt 1) (hN4 : N0 ≤ 4) : Go Z k 0 0 ([] : Hp) 22 #[.val (.int i0), .val (.int i1), .val (.int i2), .val (.int i3), .val (.int i4), .val (.int cp), .val (.int (3 : Int32)), .val (.int (3 : Int32)), .unset, .unset, .unset] [] := by
  refine s_new H (C := "com/example/thorough_paths/thoroughpaths/service/Nodes") [("com/example/thorough_paths/thoroughpaths/service/Nodes", "size", "I", (.int (0 : Int32))), ("com/example/thorough_paths/thoroughpaths/service/Nodes", "numbers", "[I", .null)] at_22 (mem (i := 0) rfl) (mem (i := 1) rfl) (mem (i := 2) rfl) (allC ⟨Or.inl (mem (i := 10) rfl), .int, by decide, rfl⟩ (allC ⟨Or.inl (mem (i := 17) rfl), (.array .int), by decide, rfl⟩ allN)) (by decide) (cn' := 1) (sn' := 2) rfl rfl (by decide) (by decide) (pc' := 25) rfl (fun a1 => ?_)
  refine s_dup H at_25 rfl (pc' := 26) rfl ?_
  refine s_iload H at_26 rfl (pc' := 28) rfl ?_
  refine s_init H (met_ni H.tb a1 cp N0 hN hN4) at_28 rfl (mem (i := 3) rfl) (mem (i := 4) rfl) (mem (i := 2) rfl) (mem (i := 5) rfl) (by decide) pd_1 rfl (rest := [(.ref a1)]) rfl rfl (by decide) (Nat.le_of_ble_eq_true rfl) (cn' := 2) (sn' := 6) rfl rfl (by decide) (by decide) (pc' := 31) rfl (fun _ _ hq => ?_)
  obtain ⟨na0, rfl, rfl⟩ := hq
  show Go Z k 2 6 ((na0, ArI Z .int (List.replicate N0 0)) :: (a1, Obj Z "com/example/thorough_paths/thoroughpaths/service/Nodes" [("com/example/thorough_paths/thoroughpaths/service/Nodes", "size", "I", (.int (0 : Nat).toInt32)), ("com/example/thorough_paths/thoroughpaths/service/Nodes", "numbers", "[I", (.ref na0))]) :: []) 31 #[.val (.int i0), .val (.int i1), .val (.int i2), .val (.int i3), .val (.int i4), .val (.int cp), .val (.int (3 : Int32)), .val (.int (3 : Int32)), .unset, .unset, .unset] [(.ref a1)]
  obtain ⟨ns0, he, l0⟩ : ∃ ns : List Int32, ns = List.replicate N0 0 ∧ ns.length = N0 := ⟨_, rfl, by simp⟩
  rw [← he]
  clear he
  have p0 : 0 ≤ ns0.length := Nat.zero_le _
  have k0 : ns0.length ≤ 100 := by omega
  have t0 : ns0.take 0 = [] := rfl
  show Go Z k 2 6 ((na0, ArI Z .int ns0) :: (a1, Obj Z "com/example/thorough_paths/thoroughpaths/service/Nodes" [("com/example/thorough_paths/thoroughpaths/service/Nodes", "size", "I", (.int (0 : Nat).toInt32)), ("com/example/thorough_paths/thoroughpaths/service/Nodes", "numbers", "[I", (.ref na0))]) :: []) 31 #[.val (.int i0), .val (.int i1), .val (.int i2), .val (.int i3), .val (.int i4), .val (.int cp), .val (.int (3 : Int32)), .val (.int (3 : Int32)), .unset, .unset, .unset] [(.ref a1)]
  refine s_astore H at_31 (L' := #[.val (.int i0), .val (.int i1), .val (.int i2), .val (.int i3), .val (.int i4), .val (.int cp), .val (.int (3 : Int32)), .val (.int (3 : Int32)), .val (.ref a1), .unset, .unset]) rfl rfl (pc' := 33) rfl ?_
  refine s_iload H at_33 rfl (pc' := 35) rfl ?_
  refine s_iconst H at_35 (z := (1 : Int32)) (by decide) (pc' := 36) rfl ?_
  refine s_icmp H at_36 (py := 45) (pc' := 39) q_lt (by decide) rfl (fun c36 => ?_) (fun c36 => ?_)
  · exact absurd c36 (by decide)
  · refine s_aload H at_39 rfl rfl (pc' := 41) rfl ?_
    refine s_iloadn H at_41 rfl (pc' := 42) rfl ?_
    refine s_virtual H (met_na H.tb a1 na0 ns0 ([] : List Int32) 0 i1 p0 (by decide) k0 t0) at_42 (i := 1) rfl (mem (i := 23) rfl) (mem (i := 24) rfl) (mem (i := 26) rfl) (mem (i := 25) rfl) (mem (i := 2) rfl) (mem (i := 27) rfl) (by decide) pd_5 rfl (rest := []) rfl rfl (by decide) (Nat.le_of_ble_eq_true rfl) (cn' := 3) (sn' := 10) rfl rfl (by decide) (by decide) (pc' := 45) rfl (fun _ _ hq => ?_)
    obtain ⟨na1, ns1, F1, p1, k1, t1', rfl, rfl⟩ := hq
    show Go Z k 3 10 ((na1, ArI Z .int ns1) :: (a1, Obj Z "com/example/thorough_paths/thoroughpaths/service/Nodes" [("com/example/thorough_paths/thoroughpaths/service/Nodes", "size", "I", (.int (1 : Nat).toInt32)), ("com/example/thorough_paths/thoroughpaths/service/Nodes", "numbers", "[I", (.ref na1))]) :: F1) 45 #[.val (.int i0), .val (.int i1), .val (.int i2), .val (.int i3), .val (.int i4), .val (.int cp), .val (.int (3 : Int32)), .val (.int (3 : Int32)), .val (.ref a1), .unset, .unset] []
    have t1 : ns1.take 1 = ([i1] : List Int32) := t1'
    refine s_iload H at_45 rfl (pc' := 47) rfl ?_
    refine s_iconst H at_47 (z := (2 : Int32)) (by decide) (pc' := 48) rfl ?_
    refine s_icmp H at_48 (py := 57) (pc' := 51) q_lt (by decide) rfl (fun c48 => ?_) (fun c48 => ?_)
    · exact absurd c48 (by decide)
    · refine s_aload H at_51 rfl rfl (pc' := 53) rfl ?_
      refine s_iloadn H at_53 rfl (pc' := 54) rfl ?_
      refine s_virtual H (met_na H.tb a1 na1 ns1 ([i1] : List Int32) 1 i2 p1 (by decide) k1 t1) at_54 (i := 1) rfl (mem (i := 23) rfl) (mem (i := 24) rfl) (mem (i := 26) rfl) (mem (i := 25) rfl) (mem (i := 2) rfl) (mem (i := 27) rfl) (by decide) pd_5 rfl (rest := []) rfl rfl (by decide) (Nat.le_of_ble_eq_true rfl) (cn' := 4) (sn' := 14) rfl rfl (by decide) (by decide) (pc' := 57) rfl (fun _ _ hq => ?_)
      obtain ⟨na2, ns2, F2, p2, k2, t2', rfl, rfl⟩ := hq
      show Go Z k 4 14 ((na2, ArI Z .int ns2) :: (a1, Obj Z "com/example/thorough_paths/thoroughpaths/service/Nodes" [("com/example/thorough_paths/thoroughpaths/service/Nodes", "size", "I", (.int (2 : Nat).toInt32)), ("com/example/thorough_paths/thoroughpaths/service/Nodes", "numbers", "[I", (.ref na2))]) :: F2) 57 #[.val (.int i0), .val (.int i1), .val (.int i2), .val (.int i3), .val (.int i4), .val (.int cp), .val (.int (3 : Int32)), .val (.int (3 : Int32)), .val (.ref a1), .unset, .unset] []
      have t2 : ns2.take 2 = ([i1, i2] : List Int32) := t2'
      refine s_iload H at_57 rfl (pc' := 59) rfl ?_
      refine s_iconst H at_59 (z := (3 : Int32)) (by decide) (pc' := 60) rfl ?_
      refine s_icmp H at_60 (py := 69) (pc' := 63) q_lt (by decide) rfl (fun c60 => ?_) (fun c60 => ?_)
      · exact absurd c60 (by decide)
      · refine s_aload H at_63 rfl rfl (pc' := 65) rfl ?_
        refine s_iloadn H at_65 rfl (pc' := 66) rfl ?_
        refine s_virtual H (met_na H.tb a1 na2 ns2 ([i1, i2] : List Int32) 2 i3 p2 (by decide) k2 t2) at_66 (i := 1) rfl (mem (i := 23) rfl) (mem (i := 24) rfl) (mem (i := 26) rfl) (mem (i := 25) rfl) (mem (i := 2) rfl) (mem (i := 27) rfl) (by decide) pd_5 rfl (rest := []) rfl rfl (by decide) (Nat.le_of_ble_eq_true rfl) (cn' := 5) (sn' := 18) rfl rfl (by decide) (by decide) (pc' := 69) rfl (fun _ _ hq => ?_)
        obtain ⟨na3, ns3, F3, p3, k3, t3', rfl, rfl⟩ := hq
        show Go Z k 5 18 ((na3, ArI Z .int ns3) :: (a1, Obj Z "com/example/thorough_paths/thoroughpaths/service/Nodes" [("com/example/thorough_paths/thoroughpaths/service/Nodes", "size", "I", (.int (3 : Nat).toInt32)), ("com/example/thorough_paths/thoroughpaths/service/Nodes", "numbers", "[I", (.ref na3))]) :: F3) 69 #[.val (.int i0), .val (.int i1), .val (.int i2), .val (.int i3), .val (.int i4), .val (.int cp), .val (.int (3 : Int32)), .val (.int (3 : Int32)), .val (.ref a1), .unset, .unset] []
        have t3 : ns3.take 3 = ([i1, i2, i3] : List Int32) := t3'
        refine s_iload H at_69 rfl (pc' := 71) rfl ?_
        refine s_if H at_71 (py := 80) (pc' := 74) z_ne (by decide) rfl (fun c71 => ?_) (fun c71 => ?_)
        · refine s_iload H at_80 rfl (pc' := 82) rfl ?_
          refine s_iconst H at_82 (z := (1 : Int32)) (by decide) (pc' := 83) rfl ?_
          refine s_icmp H at_83 (py := 92) (pc' := 86) q_ne (by decide) rfl (fun c83 => ?_) (fun c83 => ?_)
          · refine s_iload H at_92 rfl (pc' := 94) rfl ?_
            refine s_iconst H at_94 (z := (2 : Int32)) (by decide) (pc' := 95) rfl ?_
            refine s_icmp H at_95 (py := 104) (pc' := 98) q_ne (by decide) rfl (fun c95 => ?_) (fun c95 => ?_)
            · refine s_iload H at_104 rfl (pc' := 106) rfl ?_
              refine s_istore H at_106 (L' := fun z => #[.val (.int i0), .val (.int i1), .val (.int i2), .val (.int i3), .val (.int i4), .val (.int cp), .val (.int (3 : Int32)), .val (.int (3 : Int32)), .val (.ref a1), .val (.int z), .unset]) (fun _ => rfl) (pc' := 108) rfl (fun z0 hz => ?_)
              subst z0
              refine s_iload H at_108 rfl (pc' := 110) rfl ?_
              refine s_iconst H at_110 (z := (1 : Int32)) (by decide) (pc' := 111) rfl ?_
              refine s_icmp H at_111 (py := 120) (pc' := 114) q_lt (by decide) rfl (fun c111 => ?_) (fun c111 => ?_)
              · exact absurd c111 (by decide)
              · refine s_iloadn H at_114 rfl (pc' := 115) rfl ?_
                refine s_iload H at_115 rfl (pc' := 117) rfl ?_
                refine s_icmp H at_117 (py := 144) (pc' := 120) q_eq (by decide) rfl (fun c117 => ?_) (fun c117 => ?_)
                · refine s_iconst H at_144 (z := (1 : Int32)) (by decide) (pc' := 145) rfl ?_
                  refine s_goto H at_145 (pc' := 149) (by decide) ?_
                  refine s_istore H at_149 (L' := fun z => #[.val (.int i0), .val (.int i1), .val (.int i2), .val (.int i3), .val (.int i4), .val (.int cp), .val (.int (3 : Int32)), .val (.int (3 : Int32)), .val (.ref a1), .val (.int i4), .val (.int z)]) (fun _ => rfl) (pc' := 151) rfl (fun z0 hz => ?_)
                  subst z0
                  refine s_aload H at_151 rfl rfl (pc' := 153) rfl ?_
                  refine s_iload H at_153 rfl (pc' := 155) rfl ?_
                  refine s_virtual H (met_nc H.tb a1 na3 ns3 3 i4 p3 k3) at_155 (i := 1) rfl (mem (i := 18) rfl) (mem (i := 19) rfl) (mem (i := 21) rfl) (mem (i := 20) rfl) (mem (i := 2) rfl) (mem (i := 22) rfl) (by decide) pd_4 rfl (rest := []) rfl rfl (by decide) (Nat.le_of_ble_eq_true rfl) (cn' := 5) (sn' := 18) rfl rfl (by decide) (by decide) (pc' := 158) rfl (fun _ _ hq => ?_)
                  obtain ⟨rfl, rfl⟩ := hq
                  show Go Z k 5 18 ((na3, ArI Z .int ns3) :: (a1, Obj Z "com/example/thorough_paths/thoroughpaths/service/Nodes" [("com/example/thorough_paths/thoroughpaths/service/Nodes", "size", "I", (.int (3 : Nat).toInt32)), ("com/example/thorough_paths/thoroughpaths/service/Nodes", "numbers", "[I", (.ref na3))]) :: F3) 158 #[.val (.int i0), .val (.int i1), .val (.int i2), .val (.int i3), .val (.int i4), .val (.int cp), .val (.int (3 : Int32)), .val (.int (3 : Int32)), .val (.ref a1), .val (.int i4), .val (.int (1 : Int32))] [(.int (if i4 ∈ ns3.take 3 then 1 else 0))]
                  rw [t3]
                  refine s_iload H at_158 rfl (pc' := 160) rfl ?_
                  refine s_icmp H at_160 (py := 167) (pc' := 163) q_ne (by decide) rfl (fun c160 => ?_) (fun c160 => ?_)
                  · refine s_iconst H at_167 (z := (0 : Int32)) (by decide) (pc' := 168) rfl ?_
                    exfalso
                    clear t0 t1 t1' t2 t2' t3 t3'
                    simp_all [eq_comm]
                  · refine s_iconst H at_163 (z := (1 : Int32)) (by decide) (pc' := 164) rfl ?_
                    refine s_goto H at_164 (pc' := 168) (by decide) ?_
                    exact s_iret H at_168 rfl (by simp) (by decide) (by decide) (rfl)
                · refine s_iload H at_120 rfl (pc' := 122) rfl ?_
                  refine s_iconst H at_122 (z := (2 : Int32)) (by decide) (pc' := 123) rfl ?_
                  refine s_icmp H at_123 (py := 132) (pc' := 126) q_lt (by decide) rfl (fun c123 => ?_) (fun c123 => ?_)
                  · exact absurd c123 (by decide)
                  · refine s_iloadn H at_126 rfl (pc' := 127) rfl ?_
                    refine s_iload H at_127 rfl (pc' := 129) rfl ?_
                    refine s_icmp H at_129 (py := 144) (pc' := 132) q_eq (by decide) rfl (fun c129 => ?_) (fun c129 => ?_)
                    · refine s_iconst H at_144 (z := (1 : Int32)) (by decide) (pc' := 145) rfl ?_
                      refine s_goto H at_145 (pc' := 149) (by decide) ?_
                      refine s_istore H at_149 (L' := fun z => #[.val (.int i0), .val (.int i1), .val (.int i2), .val (.int i3), .val (.int i4), .val (.int cp), .val (.int (3 : Int32)), .val (.int (3 : Int32)), .val (.ref a1), .val (.int i4), .val (.int z)]) (fun _ => rfl) (pc' := 151) rfl (fun z0 hz => ?_)
                      subst z0
                      refine s_aload H at_151 rfl rfl (pc' := 153) rfl ?_
                      refine s_iload H at_153 rfl (pc' := 155) rfl ?_
                      refine s_virtual H (met_nc H.tb a1 na3 ns3 3 i4 p3 k3) at_155 (i := 1) rfl (mem (i := 18) rfl) (mem (i := 19) rfl) (mem (i := 21) rfl) (mem (i := 20) rfl) (mem (i := 2) rfl) (mem (i := 22) rfl) (by decide) pd_4 rfl (rest := []) rfl rfl (by decide) (Nat.le_of_ble_eq_true rfl) (cn' := 5) (sn' := 18) rfl rfl (by decide) (by decide) (pc' := 158) rfl (fun _ _ hq => ?_)
                      obtain ⟨rfl, rfl⟩ := hq
                      show Go Z k 5 18 ((na3, ArI Z .int ns3) :: (a1, Obj Z "com/example/thorough_paths/thoroughpaths/service/Nodes" [("com/example/thorough_paths/thoroughpaths/service/Nodes", "size", "I", (.int (3 : Nat).toInt32)), ("com/example/thorough_paths/thoroughpaths/service/Nodes", "numbers", "[I", (.ref na3))]) :: F3) 158 #[.val (.int i0), .val (.int i1), .val (.int i2), .val (.int i3), .val (.int i4), .val (.int cp), .val (.int (3 : Int32)), .val (.int (3 : Int32)), .val (.ref a1), .val (.int i4), .val (.int (1 : Int32))] [(.int (if i4 ∈ ns3.take 3 then 1 else 0))]
                      rw [t3]
                      refine s_iload H at_158 rfl (pc' := 160) rfl ?_
                      refine s_icmp H at_160 (py := 167) (pc' := 163) q_ne (by decide) rfl (fun c160 => ?_) (fun c160 => ?_)
                      · refine s_iconst H at_167 (z := (0 : Int32)) (by decide) (pc' := 168) rfl ?_
                        exfalso
                        clear t0 t1 t1' t2 t2' t3 t3'
                        simp_all [eq_comm]
                      · refine s_iconst H at_163 (z := (1 : Int32)) (by decide) (pc' := 164) rfl ?_
                        refine s_goto H at_164 (pc' := 168) (by decide) ?_
                        exact s_iret H at_168 rfl (by simp) (by decide) (by decide) (rfl)
                    · refine s_iload H at_132 rfl (pc' := 134) rfl ?_
                      refine s_iconst H at_134 (z := (3 : Int32)) (by decide) (pc' := 135) rfl ?_
                      refine s_icmp H at_135 (py := 148) (pc' := 138) q_lt (by decide) rfl (fun c135 => ?_) (fun c135 => ?_)
                      · exact absurd c135 (by decide)
                      · refine s_iloadn H at_138 rfl (pc' := 139) rfl ?_
                        refine s_iload H at_139 rfl (pc' := 141) rfl ?_
                        refine s_icmp H at_141 (py := 148) (pc' := 144) q_ne (by decide) rfl (fun c141 => ?_) (fun c141 => ?_)
                        · refine s_iconst H at_148 (z := (0 : Int32)) (by decide) (pc' := 149) rfl ?_
                          refine s_istore H at_149 (L' := fun z => #[.val (.int i0), .val (.int i1), .val (.int i2), .val (.int i3), .val (.int i4), .val (.int cp), .val (.int (3 : Int32)), .val (.int (3 : Int32)), .val (.ref a1), .val (.int i4), .val (.int z)]) (fun _ => rfl) (pc' := 151) rfl (fun z0 hz => ?_)
                          subst z0
                          refine s_aload H at_151 rfl rfl (pc' := 153) rfl ?_
                          refine s_iload H at_153 rfl (pc' := 155) rfl ?_
                          refine s_virtual H (met_nc H.tb a1 na3 ns3 3 i4 p3 k3) at_155 (i := 1) rfl (mem (i := 18) rfl) (mem (i := 19) rfl) (mem (i := 21) rfl) (mem (i := 20) rfl) (mem (i := 2) rfl) (mem (i := 22) rfl) (by decide) pd_4 rfl (rest := []) rfl rfl (by decide) (Nat.le_of_ble_eq_true rfl) (cn' := 5) (sn' := 18) rfl rfl (by decide) (by decide) (pc' := 158) rfl (fun _ _ hq => ?_)
                          obtain ⟨rfl, rfl⟩ := hq
                          show Go Z k 5 18 ((na3, ArI Z .int ns3) :: (a1, Obj Z "com/example/thorough_paths/thoroughpaths/service/Nodes" [("com/example/thorough_paths/thoroughpaths/service/Nodes", "size", "I", (.int (3 : Nat).toInt32)), ("com/example/thorough_paths/thoroughpaths/service/Nodes", "numbers", "[I", (.ref na3))]) :: F3) 158 #[.val (.int i0), .val (.int i1), .val (.int i2), .val (.int i3), .val (.int i4), .val (.int cp), .val (.int (3 : Int32)), .val (.int (3 : Int32)), .val (.ref a1), .val (.int i4), .val (.int (0 : Int32))] [(.int (if i4 ∈ ns3.take 3 then 1 else 0))]
                          rw [t3]
                          refine s_iload H at_158 rfl (pc' := 160) rfl ?_
                          refine s_icmp H at_160 (py := 167) (pc' := 163) q_ne (by decide) rfl (fun c160 => ?_) (fun c160 => ?_)
                          · refine s_iconst H at_167 (z := (0 : Int32)) (by decide) (pc' := 168) rfl ?_
                            exfalso
                            clear t0 t1 t1' t2 t2' t3 t3'
                            simp_all [eq_comm]
                          · refine s_iconst H at_163 (z := (1 : Int32)) (by decide) (pc' := 164) rfl ?_
                            refine s_goto H at_164 (pc' := 168) (by decide) ?_
                            exact s_iret H at_168 rfl (by simp) (by decide) (by decide) (rfl)
                        · refine s_iconst H at_144 (z := (1 : Int32)) (by decide) (pc' := 145) rfl ?_
                          refine s_goto H at_145 (pc' := 149) (by decide) ?_
                          refine s_istore H at_149 (L' := fun z => #[.val (.int i0), .val (.int i1), .val (.int i2), .val (.int i3), .val (.int i4), .val (.int cp), .val (.int (3 : Int32)), .val (.int (3 : Int32)), .val (.ref a1), .val (.int i4), .val (.int z)]) (fun _ => rfl) (pc' := 151) rfl (fun z0 hz => ?_)
                          subst z0
                          refine s_aload H at_151 rfl rfl (pc' := 153) rfl ?_
                          refine s_iload H at_153 rfl (pc' := 155) rfl ?_
                          refine s_virtual H (met_nc H.tb a1 na3 ns3 3 i4 p3 k3) at_155 (i := 1) rfl (mem (i := 18) rfl) (mem (i := 19) rfl) (mem (i := 21) rfl) (mem (i := 20) rfl) (mem (i := 2) rfl) (mem (i := 22) rfl) (by decide) pd_4 rfl (rest := []) rfl rfl (by decide) (Nat.le_of_ble_eq_true rfl) (cn' := 5) (sn' := 18) rfl rfl (by decide) (by decide) (pc' := 158) rfl (fun _ _ hq => ?_)
                          obtain ⟨rfl, rfl⟩ := hq
                          show Go Z k 5 18 ((na3, ArI Z .int ns3) :: (a1, Obj Z "com/example/thorough_paths/thoroughpaths/service/Nodes" [("com/example/thorough_paths/thoroughpaths/service/Nodes", "size", "I", (.int (3 : Nat).toInt32)), ("com/example/thorough_paths/thoroughpaths/service/Nodes", "numbers", "[I", (.ref na3))]) :: F3) 158 #[.val (.int i0), .val (.int i1), .val (.int i2), .val (.int i3), .val (.int i4), .val (.int cp), .val (.int (3 : Int32)), .val (.int (3 : Int32)), .val (.ref a1), .val (.int i4), .val (.int (1 : Int32))] [(.int (if i4 ∈ ns3.take 3 then 1 else 0))]
                          rw [t3]
                          refine s_iload H at_158 rfl (pc' := 160) rfl ?_
                          refine s_icmp H at_160 (py := 167) (pc' := 163) q_ne (by decide) rfl (fun c160 => ?_) (fun c160 => ?_)
                          · refine s_iconst H at_167 (z := (0 : Int32)) (by decide) (pc' := 168) rfl ?_
                            exfalso
                            clear t0 t1 t1' t2 t2' t3 t3'
                            simp_all [eq_comm]
                          · refine s_iconst H at_163 (z := (1 : Int32)) (by decide) (pc' := 164) rfl ?_
                            refine s_goto H at_164 (pc' := 168) (by decide) ?_
                            exact s_iret H at_168 rfl (by simp) (by decide) (by decide) (rfl)
            · exact absurd c95 (by decide)
          · exact absurd c83 (by decide)
        · exact absurd c71 (by decide)
set_option maxRecDepth 65536 in
set_option maxHeartbeats 40000000 in
theorem s0 {Z : State} {k : Cx} {i0 i1 i2 i3 i4 : Int32} (H : Ok Z k room_1 (LQ) x code maxLocals ret)  : Go Z k 0 0 ([] : Hp) 0 #[.val (.int i0), .val (.int i1), .val (.int i2), .val (.int i3), .val (.int i4), .unset, .unset, .unset, .unset, .unset, .unset] [] := by
  refine s_iloadn H at_0 rfl (pc' := 1) rfl ?_
  refine s_bipush H at_1 (z := (7 : Int32)) (by decide) (pc' := 3) rfl ?_
  refine s_iand H at_3 (pc' := 4) rfl ?_
  refine s_iconst H at_4 (z := (3 : Int32)) (by decide) (pc' := 5) rfl ?_
  refine s_isub H at_5 (pc' := 6) rfl ?_
  refine s_istore H at_6 (L' := fun z => #[.val (.int i0), .val (.int i1), .val (.int i2), .val (.int i3), .val (.int i4), .val (.int z), .unset, .unset, .unset, .unset, .unset]) (fun _ => rfl) (pc' := 8) rfl (fun cp h_cp => ?_)
  refine s_iloadn H at_8 rfl (pc' := 9) rfl ?_
  refine s_iconst H at_9 (z := (3 : Int32)) (by decide) (pc' := 10) rfl ?_
  refine s_iushr H at_10 (pc' := 11) rfl ?_
  refine s_iconst H at_11 (z := (3 : Int32)) (by decide) (pc' := 12) rfl ?_
  refine s_iand H at_12 (pc' := 13) rfl ?_
  refine s_istore H at_13 (L' := fun z => #[.val (.int i0), .val (.int i1), .val (.int i2), .val (.int i3), .val (.int i4), .val (.int cp), .val (.int z), .unset, .unset, .unset, .unset]) (fun _ => rfl) (pc' := 15) rfl (fun n h_n => ?_)
  refine s_iloadn H at_15 rfl (pc' := 16) rfl ?_
  refine s_iconst H at_16 (z := (5 : Int32)) (by decide) (pc' := 17) rfl ?_
  refine s_iushr H at_17 (pc' := 18) rfl ?_
  refine s_iconst H at_18 (z := (3 : Int32)) (by decide) (pc' := 19) rfl ?_
  refine s_iand H at_19 (pc' := 20) rfl ?_
  refine s_istore H at_20 (L' := fun z => #[.val (.int i0), .val (.int i1), .val (.int i2), .val (.int i3), .val (.int i4), .val (.int cp), .val (.int n), .val (.int z), .unset, .unset, .unset]) (fun _ => rfl) (pc' := 22) rfl (fun md h_md => ?_)
  have m1 := c_mask i0 7 3 (by decide) (by decide)
  have m2 := c_isub (i0 &&& 7) 3
  rw [← h_cp, show (3 : Int32).toInt = 3 from by decide] at m2
  have rc := rng32 cp
  have hc4 : cp.toInt ≤ 4 := by omega
  have n1 := c_mask (i0.toUInt32 >>> ((3 : Int32) &&& 31).toUInt32).toInt32 3 2 (by decide) (by decide)
  have d1 := c_mask (i0.toUInt32 >>> ((5 : Int32) &&& 31).toUInt32).toInt32 3 2 (by decide) (by decide)
  rw [← h_n] at n1
  rw [← h_md] at d1
  have xn : n = 0 ∨ n = 1 ∨ n = 2 ∨ n = 3 := by simp only [← Int32.toInt_inj, show (0 : Int32).toInt = 0 from by decide, show (1 : Int32).toInt = 1 from by decide, show (2 : Int32).toInt = 2 from by decide, show (3 : Int32).toInt = 3 from by decide, show (4 : Int32).toInt = 4 from by decide]; omega
  have xm : md = 0 ∨ md = 1 ∨ md = 2 ∨ md = 3 := by simp only [← Int32.toInt_inj, show (0 : Int32).toInt = 0 from by decide, show (1 : Int32).toInt = 1 from by decide, show (2 : Int32).toInt = 2 from by decide, show (3 : Int32).toInt = 3 from by decide, show (4 : Int32).toInt = 4 from by decide]; omega
  have hN : (((max cp.toInt 1).toNat : Nat) : Int) = max cp.toInt 1 := by omega
  have hN4 : (max cp.toInt 1).toNat ≤ 4 := by omega
  clear h_n h_md n1 d1
  rcases xn with rfl | rfl | rfl | rfl <;> rcases xm with rfl | rfl | rfl | rfl
  · exact s22_0_0 _ H hN hN4
  · exact s22_0_1 _ H hN hN4
  · exact s22_0_2 _ H hN hN4
  · exact s22_0_3 _ H hN hN4
  · exact s22_1_0 _ H hN hN4
  · exact s22_1_1 _ H hN hN4
  · exact s22_1_2 _ H hN hN4
  · exact s22_1_3 _ H hN hN4
  · exact s22_2_0 _ H hN hN4
  · exact s22_2_1 _ H hN hN4
  · exact s22_2_2 _ H hN hN4
  · exact s22_2_3 _ H hN hN4
  · exact s22_3_0 _ H hN hN4
  · exact s22_3_1 _ H hN hN4
  · exact s22_3_2 _ H hN hN4
  · exact s22_3_3 _ H hN hN4
theorem pl_0 : plainFor x = true := plainFor_of_name (by first | (simp [plainName, overriddenIn, x]; done) | decide +kernel)
set_option maxRecDepth 65536 in
set_option maxHeartbeats 40000000 in
theorem met_law {Z : State} (HT : Tb Z) (l : Launch) (ws : List Jvm.Cond) (i0 : Int32) (i1 : Int32) (i2 : Int32) (i3 : Int32) (i4 : Int32) (h0 : Heap) (hO : Own Z h0 []) :
    MetFree l x (head1 (Jvm.Cond.code x code maxLocals ret :: ws) room_1) (fun a U => a = [(.int i0), (.int i1), (.int i2), (.int i3), (.int i4)].toArray ∧ Z.Warmed39 U.vm ∧ U.heap = h0) (fun _ _ _ _ _ => True) (fun _ U o U' => ∃ v L, o = .returned v ∧ (Fr Z.heap.size L ∧ ∃ M, LQ v M ∧ Own Z U'.heap M) ∧ FrameEnd U o U' L room_1.cells room_1.slots) :=
  met_of l HT pl_0 (Ls := #[.val (.int i0), .val (.int i1), .val (.int i2), .val (.int i3), .val (.int i4), .unset, .unset, .unset, .unset, .unset, .unset]) (fun m => by first | (simp [entryFrame, mkF, argsToLocals, Value.category, maxLocals]; done) | rfl) hO (fun k H => s0 H)
set_option maxRecDepth 65536 in
set_option maxHeartbeats 40000000 in
theorem comes_1 {Post : Tables → Env → Array Value → State → Outcome → State → Prop} (hpost : ∀ tb e args s v u, (limb_1_1.after args s (.returned v) u = true ∧ limb_1_2.after args s (.returned v) u = true ∧ True) → FrameEnd s (.returned v) u (Jvm.fieldLocs frame_1_writes args s ++ Jvm.arrayLocs frame_1_arrays args s ++ Jvm.staticLocs frame_1_statics s) 16 128 → Post tb e args s (.returned v) u) :
    ArmFor flags0 classFile x code maxLocals ret World_1 tables_1 room_1 Calls_1 rest_1 Pre_1 Post := by
  intro l hfl _ _ p e ha hc hk s m args below hf hA hF happ hP
  obtain ⟨hcalls, hrest, hpre⟩ := hP
  obtain ⟨-, -, -, hnamed, -, -, -, hat⟩ := (Spec.applies_iff hf).mp happ
  obtain ⟨hg, hn⟩ := and_e (Cond.before_iff.mp (show (Jvm.Cond.and given_1 narrow_1).before args s = true from hpre))
  obtain ⟨hcnt, hg0⟩ := and_e hg
  obtain ⟨hv0, hg1⟩ := and_e hg0
  obtain ⟨hv1, hg2⟩ := and_e hg1
  obtain ⟨hv2, hg3⟩ := and_e hg2
  obtain ⟨hv3, hg4⟩ := and_e hg3
  obtain ⟨w0, w1, w2, w3, w4, rfl⟩ : ∃ w0 w1 w2 w3 w4 : Value, args = #[w0, w1, w2, w3, w4] := by
    have hs : args.size = 5 := by simpa [Cond.value, given_1] using hcnt
    obtain ⟨L⟩ := args
    match L, hs with
    | [w0, w1, w2, w3, w4], _ => exact ⟨w0, w1, w2, w3, w4, rfl⟩
  have hw := fun d (hd : d ∈ tables_1) => atoms_spec (ws := Jvm.Cond.code x code maxLocals ret :: tables_1) hat d (List.mem_cons_of_mem _ hd)
  obtain ⟨i0, ei0⟩ := is_v hv0
  obtain rfl : w0 = (.int i0) := Option.some.inj ei0
  obtain ⟨i1, ei1⟩ := is_v hv1
  obtain rfl : w1 = (.int i1) := Option.some.inj ei1
  obtain ⟨i2, ei2⟩ := is_v hv2
  obtain rfl : w2 = (.int i2) := Option.some.inj ei2
  obtain ⟨i3, ei3⟩ := is_v hv3
  obtain rfl : w3 = (.int i3) := Option.some.inj ei3
  obtain ⟨i4, ei4⟩ := is_v hg4
  obtain rfl : w4 = (.int i4) := Option.some.inj ei4
  have hO : Own s s.heap [] := ⟨⟨Nat.le_refl _, fun _ _ q => q⟩, fun i x hx => (by cases hx), fun i j x y hx => (by cases hx)⟩
  obtain ⟨n, o, h1, h2, h3, v, L, rfl, ⟨N, M, hv, -⟩, hq⟩ := met_law (Z := s) ⟨_, hw⟩ l tables_1 i0 i1 i2 i3 i4 s.heap hO p e ha hc hk s m _ below hf ((Spec.applies_iff_loose hf).mp happ).1 ⟨rfl, State.Warmed39.refl s, rfl⟩ trivial
  obtain rfl : v = some (.int 1) := hv
  exact ⟨n, _, h1, h2, h3, hpost _ _ _ _ _ _ ⟨Cond.after_iff.mpr rfl, Cond.after_iff.mpr (eq_i res_at (Term.int_eval (1)) rfl), trivial⟩ ⟨hq.1, hq.2.1, (hq.2.2.sift fun y hy => Or.inr (N y hy)).mono (by decide) (by decide)⟩⟩
theorem main_1_1 : Claimed_1_1 := comes_1 fun _ _ _ _ _ _ h hF => ⟨h.1, hF⟩
theorem main_1_2 : Claimed_1_2 := comes_1 fun _ _ _ _ _ _ h hF => ⟨h.2.1, hF⟩
end Jvm.Pilot.@@N@@
namespace Jvm.Pilot.@@N@@
open Jvm Jvm.ClassFile Sem Op Lib Jvm.Free Jvm.Stand Jvm.Pilot.@@N@@.Jvm.D
/-! MADE BY PROGRAM (witnessworld.py) out of the Statement's table words and the real class files: 12 classes; the members and pool entries that the words name. The judged class is class 1, her method 1. -/
namespace start1
open Jvm.ClassFile
def u (s : String) : CpInfo := .utf8 (stringToUtf16 s)
/-- a pool by its gaps: so many unusable entries, then the entry; so many at the end -/
def gap : Nat → List CpInfo → List CpInfo
  | 0, r => r
  | n + 1, r => .unusable :: gap n r
def poolList (es : List (Nat × CpInfo)) (last : Nat) : List CpInfo := es.foldr (fun e r => gap e.1 (e.2 :: r)) (gap last [])
def pool (es : List (Nat × CpInfo)) (last : Nat) : Array CpInfo := ⟨poolList es last⟩
def fileOf (pool : Array CpInfo) (this : Nat) (attrs : Array Attribute := #[]) (ms : Array MethodInfo := #[]) (fl : Nat := 33) (sup : Nat := 0) (ifs : Array Nat := #[]) (fds : Array FieldInfo := #[]) : ClassFile where
  minorVersion := 0
  majorVersion := 65
  constantPool := pool
  accessFlags := fl
  thisClass := this
  superClass := sup
  interfaces := ifs
  fields := fds
  methods := ms
  attributes := attrs
def plain (name : String) (sup : Option ClassId) : Class where
  name := name
  kind := .ordinary
  loader := none
  accessFlags := 33
  super := sup
  interfaces := #[]
  cf := none
  fields := #[]
  methods := #[]
  instanceTypes := #[]
  staticTypes := #[]
  resolved := #[]
  callSites := []
  init := .initialized
  statics := none
  mirror := none

def pool0 : Array CpInfo := pool [(5, u "<init>"), (0, u "()V"), (1, .class_ 10), (1, u "java/lang/Object")] 113

def k0c0 : Code := { maxStack := 0, maxLocals := 1, code := object_method_1_code, exceptionTable := #[], attributes := #[] }
def k0m0 : Method := { name := "<init>", desc := "()V", sig := { parameters := [], returnType := none }, accessFlags := 1, code := some k0c0 }
/-- java/lang/Object -/
def k0 : Class := { plain "java/lang/Object" none with
  accessFlags := 33
  interfaces := #[]
  cf := some (fileOf pool0 8 #[] #[{ accessFlags := 1, nameIndex := 5, descriptorIndex := 6, attributes := #[] }] 33 0 #[] #[])
  fields := #[]
  methods := #[k0m0]
  instanceTypes := #[]
  staticTypes := #[]
  resolved := Array.replicate 124 none
  statics := none }

def pool1 : Array CpInfo := pool [(2, .class_ 4), (1, u "java/lang/Object"), (0, u "<init>"), (0, u "()V"), (0, .class_ 8), (0, u "com/example/thorough_paths/thoroughpaths/service/Nodes"), (0, .methodref 7 10), (0, .nameAndType 5 11), (0, u "(I)V"), (0, .methodref 7 13), (0, .nameAndType 14 11), (0, u "add"), (0, .methodref 7 16), (0, .nameAndType 17 18), (0, u "contains"), (0, u "(I)Z"), (0, .class_ 20), (0, u "com/example/thorough_paths/thoroughpaths/service/NodesContainsPinLaw"), (2, u "law"), (0, u "(IIIII)Z")] 3

def k1m0 : Method := { name := "<init>", desc := "()V", sig := { parameters := [], returnType := none }, accessFlags := 1, code := none }
def k1c1 : Code := { maxStack := 3, maxLocals := 11, code := code, exceptionTable := #[], attributes := #[] }
def k1m1 : Method := { name := "law", desc := "(IIIII)Z", sig := { parameters := [.int, .int, .int, .int, .int], returnType := some .boolean }, accessFlags := 9, code := some k1c1 }
/-- com/example/thorough_paths/thoroughpaths/service/NodesContainsPinLaw -/
def k1 : Class := { plain "com/example/thorough_paths/thoroughpaths/service/NodesContainsPinLaw" (some 0) with
  accessFlags := 49
  interfaces := #[]
  cf := some (fileOf pool1 19 #[] #[{ accessFlags := 1, nameIndex := 5, descriptorIndex := 6, attributes := #[] }, { accessFlags := 9, nameIndex := 23, descriptorIndex := 24, attributes := #[] }] 49 2 #[] #[])
  fields := #[]
  methods := #[k1m0, k1m1]
  instanceTypes := #[]
  staticTypes := #[]
  resolved := Array.replicate 28 none
  statics := none }

def pool2 : Array CpInfo := pool [(2, .class_ 4), (1, u "com/example/thorough_paths/thoroughpaths/service/Nodes"), (0, u "<init>"), (0, u "(I)V"), (0, .methodref 8 9), (0, .class_ 10), (0, .nameAndType 5 11), (0, u "java/lang/Object"), (0, u "()V"), (0, .fieldref 2 13), (0, .nameAndType 14 15), (0, u "size"), (0, u "I"), (0, .methodref 17 18), (0, .class_ 19), (0, .nameAndType 20 21), (0, u "java/lang/Math"), (0, u "max"), (0, u "(II)I"), (0, .fieldref 2 23), (0, .nameAndType 24 25), (0, u "numbers"), (0, u "[I"), (2, u "add"), (4, .methodref 2 34), (0, .nameAndType 35 6), (0, u "makeRoom"), (6, .methodref 43 44), (0, .class_ 45), (0, .nameAndType 46 47), (0, u "java/util/Arrays"), (0, u "copyOf"), (0, u "([II)[I"), (5, u "(I)Z"), (30, u "contains")] 5

def k2m0 : Method := { name := "<init>", desc := "()V", sig := { parameters := [], returnType := none }, accessFlags := 0, code := none }
def k2c1 : Code := { maxStack := 3, maxLocals := 2, code := prog_105_method_2_code, exceptionTable := #[], attributes := #[] }
def k2m1 : Method := { name := "<init>", desc := "(I)V", sig := { parameters := [.int], returnType := none }, accessFlags := 0, code := some k2c1 }
def k2c2 : Code := { maxStack := 5, maxLocals := 2, code := prog_105_method_5_code, exceptionTable := #[], attributes := #[] }
def k2m2 : Method := { name := "add", desc := "(I)V", sig := { parameters := [.int], returnType := none }, accessFlags := 0, code := some k2c2 }
def k2c3 : Code := { maxStack := 5, maxLocals := 3, code := prog_105_method_8_code, exceptionTable := #[], attributes := #[] }
def k2m3 : Method := { name := "makeRoom", desc := "(I)V", sig := { parameters := [.int], returnType := none }, accessFlags := 2, code := some k2c3 }
def k2c4 : Code := { maxStack := 2, maxLocals := 3, code := prog_105_method_13_code, exceptionTable := #[], attributes := #[] }
def k2m4 : Method := { name := "contains", desc := "(I)Z", sig := { parameters := [.int], returnType := some .boolean }, accessFlags := 0, code := some k2c4 }
/-- com/example/thorough_paths/thoroughpaths/service/Nodes -/
def k2 : Class := { plain "com/example/thorough_paths/thoroughpaths/service/Nodes" (some 0) with
  accessFlags := 48
  interfaces := #[]
  cf := some (fileOf pool2 2 #[] #[{ accessFlags := 0, nameIndex := 5, descriptorIndex := 11, attributes := #[] }, { accessFlags := 0, nameIndex := 5, descriptorIndex := 6, attributes := #[] }, { accessFlags := 0, nameIndex := 28, descriptorIndex := 6, attributes := #[] }, { accessFlags := 2, nameIndex := 35, descriptorIndex := 6, attributes := #[] }, { accessFlags := 0, nameIndex := 84, descriptorIndex := 53, attributes := #[] }] 48 8 #[] #[{ accessFlags := 2, nameIndex := 24, descriptorIndex := 25, attributes := #[] }, { accessFlags := 2, nameIndex := 14, descriptorIndex := 15, attributes := #[] }])
  fields := #[{ name := "numbers", type := (.array .int), accessFlags := 2, slot := 0, constantValue := 0 }, { name := "size", type := .int, accessFlags := 2, slot := 1, constantValue := 0 }]
  methods := #[k2m0, k2m1, k2m2, k2m3, k2m4]
  instanceTypes := #[(.array .int), .int]
  staticTypes := #[]
  resolved := Array.replicate 90 none
  statics := none }

def pool3 : Array CpInfo := pool [(1, .class_ 2), (0, u "java/lang/Math"), (1, .class_ 6), (1, u "java/lang/Object"), (0, u "<init>"), (0, u "()V"), (89, .class_ 100), (1, u "java/lang/Math$RandomNumberGeneratorHolder"), (71, u "negativeZeroFloatBits"), (0, u "J"), (2, u "negativeZeroDoubleBits"), (21, u "max"), (2, u "min"), (43, u "$assertionsDisabled"), (0, u "Z"), (88, u "(II)I"), (2, u "twoToTheDoubleScaleDown"), (0, u "D"), (4, u "twoToTheDoubleScaleUp"), (9, u "E"), (3, u "PI"), (2, u "TAU"), (2, u "DEGREES_TO_RADIANS"), (0, u "RADIANS_TO_DEGREES")] 94

def k3m0 : Method := { name := "<init>", desc := "()V", sig := { parameters := [], returnType := none }, accessFlags := 2, code := none }
def k3c1 : Code := { maxStack := 2, maxLocals := 2, code := jdk_29_method_65_code, exceptionTable := #[], attributes := #[] }
def k3m1 : Method := { name := "max", desc := "(II)I", sig := { parameters := [.int, .int], returnType := some .int }, accessFlags := 9, code := some k3c1 }
def k3c2 : Code := { maxStack := 2, maxLocals := 2, code := jdk_29_method_69_code, exceptionTable := #[], attributes := #[] }
def k3m2 : Method := { name := "min", desc := "(II)I", sig := { parameters := [.int, .int], returnType := some .int }, accessFlags := 9, code := some k3c2 }
/-- java/lang/Math -/
def k3 : Class := { plain "java/lang/Math" (some 0) with
  accessFlags := 49
  interfaces := #[]
  cf := some (fileOf pool3 1 #[.nestMembers #[98]] #[{ accessFlags := 2, nameIndex := 7, descriptorIndex := 8, attributes := #[] }, { accessFlags := 9, nameIndex := 198, descriptorIndex := 335, attributes := #[] }, { accessFlags := 9, nameIndex := 201, descriptorIndex := 335, attributes := #[] }] 49 4 #[] #[{ accessFlags := 25, nameIndex := 354, descriptorIndex := 339, attributes := #[] }, { accessFlags := 25, nameIndex := 358, descriptorIndex := 339, attributes := #[] }, { accessFlags := 25, nameIndex := 361, descriptorIndex := 339, attributes := #[] }, { accessFlags := 26, nameIndex := 364, descriptorIndex := 339, attributes := #[] }, { accessFlags := 26, nameIndex := 365, descriptorIndex := 339, attributes := #[] }, { accessFlags := 26, nameIndex := 172, descriptorIndex := 173, attributes := #[] }, { accessFlags := 26, nameIndex := 176, descriptorIndex := 173, attributes := #[] }, { accessFlags := 8, nameIndex := 344, descriptorIndex := 339, attributes := #[] }, { accessFlags := 8, nameIndex := 338, descriptorIndex := 339, attributes := #[] }, { accessFlags := 4120, nameIndex := 245, descriptorIndex := 246, attributes := #[] }])
  fields := #[{ name := "E", type := .double, accessFlags := 25, slot := 0, constantValue := 0 }, { name := "PI", type := .double, accessFlags := 25, slot := 1, constantValue := 0 }, { name := "TAU", type := .double, accessFlags := 25, slot := 2, constantValue := 0 }, { name := "DEGREES_TO_RADIANS", type := .double, accessFlags := 26, slot := 3, constantValue := 0 }, { name := "RADIANS_TO_DEGREES", type := .double, accessFlags := 26, slot := 4, constantValue := 0 }, { name := "negativeZeroFloatBits", type := .long, accessFlags := 26, slot := 5, constantValue := 0 }, { name := "negativeZeroDoubleBits", type := .long, accessFlags := 26, slot := 6, constantValue := 0 }, { name := "twoToTheDoubleScaleUp", type := .double, accessFlags := 8, slot := 7, constantValue := 0 }, { name := "twoToTheDoubleScaleDown", type := .double, accessFlags := 8, slot := 8, constantValue := 0 }, { name := "$assertionsDisabled", type := .boolean, accessFlags := 4120, slot := 9, constantValue := 0 }]
  methods := #[k3m0, k3m1, k3m2]
  instanceTypes := #[]
  staticTypes := #[.double, .double, .double, .double, .double, .long, .long, .double, .double, .boolean]
  resolved := Array.replicate 460 none
  statics := none }

def pool4 : Array CpInfo := pool [(2, .class_ 4), (1, u "java/lang/Object"), (0, u "<init>"), (0, u "()V"), (7, .class_ 16), (1, u "java/util/Arrays"), (57, .class_ 76), (1, u "java/util/Arrays$NaturalOrder"), (36, .class_ 115), (1, u "java/util/Arrays$LegacyMergeSort"), (1, u "Z"), (32, .methodref 151 152), (0, .class_ 153), (0, .nameAndType 154 155), (0, u "java/lang/System"), (0, u "arraycopy"), (0, u "(Ljava/lang/Object;ILjava/lang/Object;II)V"), (146, u "copyOf"), (1, .methodref 305 306), (0, .class_ 307), (0, .nameAndType 308 309), (0, u "java/lang/Math"), (0, u "min"), (0, u "(II)I"), (65, .class_ 376), (0, u "java/util/Arrays$ArrayList"), (68, u "$assertionsDisabled"), (269, u "MIN_ARRAY_SORT_GRAN"), (0, u "I"), (2, u "INSERTIONSORT_THRESHOLD"), (151, u "([II)[I"), (103, .class_ 976), (0, u "java/util/Arrays$ArrayItr")] 52

def k4m0 : Method := { name := "<init>", desc := "()V", sig := { parameters := [], returnType := none }, accessFlags := 2, code := none }
def k4c1 : Code := { maxStack := 6, maxLocals := 3, code := jdk_65_method_123_code, exceptionTable := #[], attributes := #[] }
def k4m1 : Method := { name := "copyOf", desc := "([II)[I", sig := { parameters := [(.array .int), .int], returnType := some (.array .int) }, accessFlags := 9, code := some k4c1 }
/-- java/util/Arrays -/
def k4 : Class := { plain "java/util/Arrays" (some 0) with
  accessFlags := 49
  interfaces := #[]
  cf := some (fileOf pool4 14 #[.nestMembers #[975, 375, 113, 74]] #[{ accessFlags := 2, nameIndex := 5, descriptorIndex := 6, attributes := #[] }, { accessFlags := 9, nameIndex := 302, descriptorIndex := 871, attributes := #[] }] 49 2 #[] #[{ accessFlags := 26, nameIndex := 715, descriptorIndex := 716, attributes := #[] }, { accessFlags := 26, nameIndex := 719, descriptorIndex := 716, attributes := #[] }, { accessFlags := 4120, nameIndex := 445, descriptorIndex := 117, attributes := #[] }])
  fields := #[{ name := "MIN_ARRAY_SORT_GRAN", type := .int, accessFlags := 26, slot := 0, constantValue := 0 }, { name := "INSERTIONSORT_THRESHOLD", type := .int, accessFlags := 26, slot := 1, constantValue := 0 }, { name := "$assertionsDisabled", type := .boolean, accessFlags := 4120, slot := 2, constantValue := 0 }]
  methods := #[k4m0, k4m1]
  instanceTypes := #[]
  staticTypes := #[.int, .int, .boolean]
  resolved := Array.replicate 1029 none
  statics := none }

def pool5 : Array CpInfo := pool [(2, .class_ 4), (1, u "java/lang/Object"), (0, u "<init>"), (0, u "()V"), (1, .class_ 10), (1, u "java/lang/System"), (0, u "allowSecurityManager"), (0, u "I"), (16, u "cons"), (0, u "Ljava/io/Console;"), (77, .class_ 110), (1, u "java/lang/System$CallersHolder"), (43, u "initialErrStream"), (0, u "Ljava/io/PrintStream;"), (19, u "security"), (0, u "Ljava/lang/SecurityManager;"), (31, .class_ 209), (0, u "java/lang/System$1"), (7, u "props"), (0, u "Ljava/util/Properties;"), (2, u "lineSeparator"), (0, u "Ljava/lang/String;"), (96, .class_ 321), (1, u "java/lang/System$LoggerFinder"), (5, .class_ 328), (0, u "java/lang/System$Logger"), (67, u "err"), (2, u "out"), (91, u "notSupportedJnuEncoding"), (15, u "in"), (17, u "initialIn"), (0, u "Ljava/io/InputStream;"), (35, u "bootLayer"), (0, u "Ljava/lang/ModuleLayer;"), (99, .class_ 664), (0, u "java/lang/System$2"), (9, u "NEVER"), (2, u "MAYBE"), (49, u "arraycopy"), (0, u "(Ljava/lang/Object;ILjava/lang/Object;II)V"), (72, .class_ 802), (0, u "java/lang/System$Logger$Level")] 31

def k5m0 : Method := { name := "<init>", desc := "()V", sig := { parameters := [], returnType := none }, accessFlags := 2, code := none }
def k5m1 : Method := { name := "arraycopy", desc := "(Ljava/lang/Object;ILjava/lang/Object;II)V", sig := { parameters := [(.object "java/lang/Object"), .int, (.object "java/lang/Object"), .int, .int], returnType := none }, accessFlags := 265, code := none }
/-- java/lang/System -/
def k5 : Class := { plain "java/lang/System" (some 0) with
  accessFlags := 49
  interfaces := #[]
  cf := some (fileOf pool5 8 #[.nestMembers #[319, 327, 801, 108, 663, 208]] #[{ accessFlags := 2, nameIndex := 5, descriptorIndex := 6, attributes := #[] }, { accessFlags := 265, nameIndex := 727, descriptorIndex := 728, attributes := #[] }] 49 2 #[] #[{ accessFlags := 25, nameIndex := 507, descriptorIndex := 526, attributes := #[] }, { accessFlags := 25, nameIndex := 399, descriptorIndex := 155, attributes := #[] }, { accessFlags := 25, nameIndex := 396, descriptorIndex := 155, attributes := #[] }, { accessFlags := 10, nameIndex := 525, descriptorIndex := 526, attributes := #[] }, { accessFlags := 26, nameIndex := 674, descriptorIndex := 12, attributes := #[] }, { accessFlags := 26, nameIndex := 677, descriptorIndex := 12, attributes := #[] }, { accessFlags := 10, nameIndex := 11, descriptorIndex := 12, attributes := #[] }, { accessFlags := 74, nameIndex := 175, descriptorIndex := 176, attributes := #[] }, { accessFlags := 10, nameIndex := 491, descriptorIndex := 222, attributes := #[] }, { accessFlags := 74, nameIndex := 29, descriptorIndex := 30, attributes := #[] }, { accessFlags := 74, nameIndex := 154, descriptorIndex := 155, attributes := #[] }, { accessFlags := 10, nameIndex := 217, descriptorIndex := 218, attributes := #[] }, { accessFlags := 10, nameIndex := 221, descriptorIndex := 222, attributes := #[] }, { accessFlags := 8, nameIndex := 562, descriptorIndex := 563, attributes := #[] }])
  fields := #[{ name := "in", type := (.object "java/io/InputStream"), accessFlags := 25, slot := 0, constantValue := 0 }, { name := "out", type := (.object "java/io/PrintStream"), accessFlags := 25, slot := 1, constantValue := 0 }, { name := "err", type := (.object "java/io/PrintStream"), accessFlags := 25, slot := 2, constantValue := 0 }, { name := "initialIn", type := (.object "java/io/InputStream"), accessFlags := 10, slot := 3, constantValue := 0 }, { name := "NEVER", type := .int, accessFlags := 26, slot := 4, constantValue := 0 }, { name := "MAYBE", type := .int, accessFlags := 26, slot := 5, constantValue := 0 }, { name := "allowSecurityManager", type := .int, accessFlags := 10, slot := 6, constantValue := 0 }, { name := "security", type := (.object "java/lang/SecurityManager"), accessFlags := 74, slot := 7, constantValue := 0 }, { name := "notSupportedJnuEncoding", type := (.object "java/lang/String"), accessFlags := 10, slot := 8, constantValue := 0 }, { name := "cons", type := (.object "java/io/Console"), accessFlags := 74, slot := 9, constantValue := 0 }, { name := "initialErrStream", type := (.object "java/io/PrintStream"), accessFlags := 74, slot := 10, constantValue := 0 }, { name := "props", type := (.object "java/util/Properties"), accessFlags := 10, slot := 11, constantValue := 0 }, { name := "lineSeparator", type := (.object "java/lang/String"), accessFlags := 10, slot := 12, constantValue := 0 }, { name := "bootLayer", type := (.object "java/lang/ModuleLayer"), accessFlags := 8, slot := 13, constantValue := 0 }]
  methods := #[k5m0, k5m1]
  instanceTypes := #[]
  staticTypes := #[(.object "java/io/InputStream"), (.object "java/io/PrintStream"), (.object "java/io/PrintStream"), (.object "java/io/InputStream"), .int, .int, .int, (.object "java/lang/SecurityManager"), (.object "java/lang/String"), (.object "java/io/Console"), (.object "java/io/PrintStream"), (.object "java/util/Properties"), (.object "java/lang/String"), (.object "java/lang/ModuleLayer")]
  resolved := Array.replicate 834 none
  statics := none }

def pool6 : Array CpInfo := pool [(1, u "java/lang/Cloneable"), (0, .class_ 1), (0, u "java/lang/Object"), (0, .class_ 3)] 3

/-- java/lang/Cloneable -/
def k6 : Class := { plain "java/lang/Cloneable" (some 0) with
  accessFlags := 1537
  interfaces := #[]
  cf := some (fileOf pool6 2 #[] #[] 1537 4 #[] #[])
  fields := #[]
  methods := #[]
  instanceTypes := #[]
  staticTypes := #[]
  resolved := Array.replicate 8 none
  statics := none }

def pool7 : Array CpInfo := pool [(1, u "java/io/Serializable"), (0, .class_ 1), (0, u "java/lang/Object"), (0, .class_ 3)] 3

/-- java/io/Serializable -/
def k7 : Class := { plain "java/io/Serializable" (some 0) with
  accessFlags := 1537
  interfaces := #[]
  cf := some (fileOf pool7 2 #[] #[] 1537 4 #[] #[])
  fields := #[]
  methods := #[]
  instanceTypes := #[]
  staticTypes := #[]
  resolved := Array.replicate 8 none
  statics := none }

/-- the primitive byte -/
def k8 : Class := { plain "byte" none with kind := .primitive 'B', accessFlags := 0x411 }
/-- [B -/
def k9 : Class := { plain "[B" (some 0) with kind := .array 8 .byte, interfaces := #[6, 7], accessFlags := 1041 }

/-- the primitive int -/
def k10 : Class := { plain "int" none with kind := .primitive 'I', accessFlags := 0x411 }
/-- [I -/
def k11 : Class := { plain "[I" (some 0) with kind := .array 10 .int, interfaces := #[6, 7], accessFlags := 1041 }

def heap : Heap := #[]
def classes : Array Class := #[k0, k1, k2, k3, k4, k5, k6, k7, k8, k9, k10, k11]
def interned : List (Array UInt16 × Addr) := []
def slotsUsed : Nat := 0
def theMethod : MethodId := ⟨1, 1⟩
def args0 : Array Value := #[.int 5, .int 7, .int 9, .int 1, .int 2]
def aboutOver (below : List Frame) : State where
  vm := { classes := classes, interned := interned.toArray }
  heap := heap
  slotsUsed := slotsUsed
  threads := #[{ frames := .invoking theMethod args0 :: below }]
def below0 : List Frame := [.native { method := ⟨0, 0⟩, args := #[] }]
def about1 : State := aboutOver below0
def p0 : Program := .bare "" "" ""
def e0 : Env := launch0.env 0 0 0
theorem w_frames : about1.frames = Frame.invoking theMethod args0 :: below0 := rfl
set_option maxRecDepth 65536 in
theorem w_args : argsFit about1.vm theMethod args0 = true := by decide +kernel
set_option maxRecDepth 65536 in
theorem w_heap : heapFits about1 = true := by decide +kernel
set_option maxRecDepth 65536 in
theorem w_runnable : about1.curStatus? = some .runnable := by decide +kernel
set_option maxRecDepth 65536 in
theorem w_alone : about1.alone = true := by decide +kernel
set_option maxRecDepth 65536 in
theorem w_named : about1.methodNamed? x = some theMethod := by decide +kernel
set_option maxRecDepth 65536 in
theorem w_hears : about1.hears theMethod below0 = true := by decide +kernel
set_option maxRecDepth 65536 in
theorem w_ripe : about1.ripe theMethod args0 below0 = true := by decide +kernel
theorem w_running : about1.status = .running := rfl
set_option maxRecDepth 65536 in
theorem w_room : about1.hasRoom e0.platform room_1 = true :=
  launch0.hasRoom_least _ room_1 (by decide +kernel) (by decide +kernel) (by decide +kernel) (by decide +kernel) (by decide +kernel) (by decide +kernel)
theorem allAtoms_all (ts : List Jvm.Cond) (a : Array Jvm.Value) (st : Jvm.State) : (allAtoms ts).before a st = ts.all (fun c => c.before a st) := by
  induction ts with
  | nil => rfl
  | cons c t ih =>
    show (Jvm.Cond.and c (allAtoms t)).before a st = _
    rw [Jvm.Cond.before_and, ih, List.all_cons]
def words1 : List Jvm.Cond := Jvm.Cond.code x code maxLocals ret :: tables_1
/-- a 'code' word, met by the world's own term for the bytes: nothing is compared byte by byte -/
theorem code_word {y : MethodName} {bytes : ByteArray} {mx : Nat} {rt : Option FieldType} {a : Array Value} {s : State} {m : MethodId} {meth : Method} {c : Code} (h1 : s.methodNamed? y = some m) (h2 : s.vm.method? m = some meth) (h3 : meth.code = some c) (h4 : c.code = bytes)
    (h5 : (c.maxLocals == mx && c.exceptionTable.isEmpty && decide (c.maxStack ≤ mostOperands) && decide (meth.sig.returnType = rt) && !meth.locks && decide (parseMethodDescriptor y.desc = some meth.sig)) = true) : (Jvm.Cond.code y bytes mx rt).before a s = true := by
  simp only [Bool.and_eq_true, beq_iff_eq, Bool.not_eq_true', decide_eq_true_eq] at h5
  obtain ⟨⟨⟨⟨⟨g1, g2⟩, g3⟩, g4⟩, g5⟩, g6⟩ := h5
  simp [Cond.before, Cond.holds, Cond.value, h1, h2, h3, h4, g1, g2, g3, g4, g5, g6]
def isCode : Jvm.Cond → Bool
  | .code _ _ _ _ => true
  | _ => false
theorem all_split {L : List Jvm.Cond} {P : Jvm.Cond → Bool} (h1 : L.all (fun c => isCode c || P c) = true) (h2 : ∀ c ∈ L.filter isCode, P c = true) : L.all P = true := by
  refine List.all_eq_true.mpr fun c hc => ?_
  have h := List.all_eq_true.mp h1 c hc
  rcases Bool.eq_false_or_eq_true (isCode c) with hi | hi
  · exact h2 c (List.mem_filter.mpr ⟨hc, hi⟩)
  · simpa [hi] using h
set_option maxRecDepth 65536 in
theorem w_c0 : (Jvm.Cond.code x code maxLocals ret).before args0 about1 = true := code_word (m := ⟨1, 1⟩) (meth := k1m1) (c := k1c1) (by decide +kernel) rfl rfl rfl (by decide +kernel)
set_option maxRecDepth 65536 in
theorem w_c1 : (Jvm.Cond.code ({ cls := "com/example/thorough_paths/thoroughpaths/service/Nodes", name := "<init>", desc := "(I)V" } : Jvm.MethodName) prog_105_method_2_code (2 : Nat) (Option.none : Option Jvm.ClassFile.FieldType)).before args0 about1 = true := code_word (m := ⟨2, 1⟩) (meth := k2m1) (c := k2c1) (by decide +kernel) rfl rfl rfl (by decide +kernel)
set_option maxRecDepth 65536 in
theorem w_c2 : (Jvm.Cond.code ({ cls := "java/lang/Object", name := "<init>", desc := "()V" } : Jvm.MethodName) object_method_1_code (1 : Nat) (Option.none : Option Jvm.ClassFile.FieldType)).before args0 about1 = true := code_word (m := ⟨0, 0⟩) (meth := k0m0) (c := k0c0) (by decide +kernel) rfl rfl rfl (by decide +kernel)
set_option maxRecDepth 65536 in
theorem w_c3 : (Jvm.Cond.code ({ cls := "java/lang/Math", name := "max", desc := "(II)I" } : Jvm.MethodName) jdk_29_method_65_code (2 : Nat) (Option.some Jvm.ClassFile.FieldType.int)).before args0 about1 = true := code_word (m := ⟨3, 1⟩) (meth := k3m1) (c := k3c1) (by decide +kernel) rfl rfl rfl (by decide +kernel)
set_option maxRecDepth 65536 in
theorem w_c4 : (Jvm.Cond.code ({ cls := "com/example/thorough_paths/thoroughpaths/service/Nodes", name := "contains", desc := "(I)Z" } : Jvm.MethodName) prog_105_method_13_code (3 : Nat) (Option.some Jvm.ClassFile.FieldType.boolean)).before args0 about1 = true := code_word (m := ⟨2, 4⟩) (meth := k2m4) (c := k2c4) (by decide +kernel) rfl rfl rfl (by decide +kernel)
set_option maxRecDepth 65536 in
theorem w_c5 : (Jvm.Cond.code ({ cls := "com/example/thorough_paths/thoroughpaths/service/Nodes", name := "add", desc := "(I)V" } : Jvm.MethodName) prog_105_method_5_code (2 : Nat) (Option.none : Option Jvm.ClassFile.FieldType)).before args0 about1 = true := code_word (m := ⟨2, 2⟩) (meth := k2m2) (c := k2c2) (by decide +kernel) rfl rfl rfl (by decide +kernel)
set_option maxRecDepth 65536 in
theorem w_c6 : (Jvm.Cond.code ({ cls := "com/example/thorough_paths/thoroughpaths/service/Nodes", name := "makeRoom", desc := "(I)V" } : Jvm.MethodName) prog_105_method_8_code (3 : Nat) (Option.none : Option Jvm.ClassFile.FieldType)).before args0 about1 = true := code_word (m := ⟨2, 3⟩) (meth := k2m3) (c := k2c3) (by decide +kernel) rfl rfl rfl (by decide +kernel)
set_option maxRecDepth 65536 in
theorem w_c7 : (Jvm.Cond.code ({ cls := "java/util/Arrays", name := "copyOf", desc := "([II)[I" } : Jvm.MethodName) jdk_65_method_123_code (3 : Nat) (Option.some (Jvm.ClassFile.FieldType.array Jvm.ClassFile.FieldType.int))).before args0 about1 = true := code_word (m := ⟨4, 1⟩) (meth := k4m1) (c := k4c1) (by decide +kernel) rfl rfl rfl (by decide +kernel)
set_option maxRecDepth 65536 in
theorem w_c8 : (Jvm.Cond.code ({ cls := "java/lang/Math", name := "min", desc := "(II)I" } : Jvm.MethodName) jdk_29_method_69_code (2 : Nat) (Option.some Jvm.ClassFile.FieldType.int)).before args0 about1 = true := code_word (m := ⟨3, 2⟩) (meth := k3m2) (c := k3c2) (by decide +kernel) rfl rfl rfl (by decide +kernel)
def codes1 : List Jvm.Cond := [Jvm.Cond.code x code maxLocals ret, Jvm.Cond.code ({ cls := "com/example/thorough_paths/thoroughpaths/service/Nodes", name := "<init>", desc := "(I)V" } : Jvm.MethodName) prog_105_method_2_code (2 : Nat) (Option.none : Option Jvm.ClassFile.FieldType), Jvm.Cond.code ({ cls := "java/lang/Object", name := "<init>", desc := "()V" } : Jvm.MethodName) object_method_1_code (1 : Nat) (Option.none : Option Jvm.ClassFile.FieldType), Jvm.Cond.code ({ cls := "java/lang/Math", name := "max", desc := "(II)I" } : Jvm.MethodName) jdk_29_method_65_code (2 : Nat) (Option.some Jvm.ClassFile.FieldType.int), Jvm.Cond.code ({ cls := "com/example/thorough_paths/thoroughpaths/service/Nodes", name := "contains", desc := "(I)Z" } : Jvm.MethodName) prog_105_method_13_code (3 : Nat) (Option.some Jvm.ClassFile.FieldType.boolean), Jvm.Cond.code ({ cls := "com/example/thorough_paths/thoroughpaths/service/Nodes", name := "add", desc := "(I)V" } : Jvm.MethodName) prog_105_method_5_code (2 : Nat) (Option.none : Option Jvm.ClassFile.FieldType), Jvm.Cond.code ({ cls := "com/example/thorough_paths/thoroughpaths/service/Nodes", name := "makeRoom", desc := "(I)V" } : Jvm.MethodName) prog_105_method_8_code (3 : Nat) (Option.none : Option Jvm.ClassFile.FieldType), Jvm.Cond.code ({ cls := "java/util/Arrays", name := "copyOf", desc := "([II)[I" } : Jvm.MethodName) jdk_65_method_123_code (3 : Nat) (Option.some (Jvm.ClassFile.FieldType.array Jvm.ClassFile.FieldType.int)), Jvm.Cond.code ({ cls := "java/lang/Math", name := "min", desc := "(II)I" } : Jvm.MethodName) jdk_29_method_69_code (2 : Nat) (Option.some Jvm.ClassFile.FieldType.int)]
set_option maxRecDepth 65536 in
theorem codes_eq : words1.filter isCode = codes1 := rfl
theorem w_codes : ∀ c ∈ words1.filter isCode, c.before args0 about1 = true := by
  rw [codes_eq]
  intro c hc
  simp only [codes1, List.mem_cons, List.not_mem_nil, or_false] at hc
  rcases hc with rfl | rfl | rfl | rfl | rfl | rfl | rfl | rfl | rfl
  · exact w_c0
  · exact w_c1
  · exact w_c2
  · exact w_c3
  · exact w_c4
  · exact w_c5
  · exact w_c6
  · exact w_c7
  · exact w_c8
set_option maxRecDepth 65536 in
theorem w_t1 : (words1.take 24).all (fun c => isCode c || c.before args0 about1) = true := by decide +kernel
set_option maxRecDepth 65536 in
theorem w_t2 : (words1.drop 24).all (fun c => isCode c || c.before args0 about1) = true := by decide +kernel
theorem w_tables : (allAtoms (Jvm.Cond.code x code maxLocals ret :: tables_1)).before args0 about1 = true := by
  rw [allAtoms_all]
  show words1.all (fun c => c.before args0 about1) = true
  refine all_split ?_ w_codes
  rw [← List.take_append_drop 24 words1, List.all_append, w_t1, w_t2]
  rfl
set_option maxRecDepth 65536 in
theorem w_case : (Jvm.Cond.and given_1 narrow_1).before args0 about1 = true := by decide +kernel
theorem w_applies : (headSpec (Jvm.Cond.code x code maxLocals ret :: tables_1) room_1).applies x e0.platform about1 = true :=
  (Spec.applies_iff w_frames).mpr ⟨w_running, w_runnable, w_alone, w_named, w_hears, w_ripe, w_room, w_tables⟩
theorem atStart : AtStart classFile x code maxLocals ret World_1 tables_1 room_1 Calls_1 rest_1 Pre_1 launch0 p0 e0 about1 theMethod args0 below0 :=
  ⟨lists_1, trivial, launch0.admits_env _ _ _, launch0.least_env, fairChoices_fair.cas, fairChoices_fair.clock, w_frames, w_args, w_heap, w_applies, trivial, trivial, w_case⟩
end start1
theorem witness_1 : WitnessClaimed_1 := ⟨start1.p0, start1.e0, start1.about1, start1.theMethod, start1.args0, start1.below0, start1.atStart⟩
end Jvm.Pilot.@@N@@
