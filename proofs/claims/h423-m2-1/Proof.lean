import JvmDerived
import JvmDerived.Pilot.@@N@@Statement
import JvmDerived.Pilot.@@N@@Code
set_option linter.unusedVariables false
set_option linter.unusedSimpArgs false
namespace Jvm.Pilot.@@N@@
open Jvm Jvm.ClassFile Sem Op Lib Jvm.Free Jvm.Stand Jvm.LawKit Jvm.RoadKit Bundle Jvm.Pilot.@@N@@.Jvm.D
/-! OWN KIT 1: the fresh part of the heap: a list of (address, what its cell is) -/
abbrev Hp : Type := List (Addr × (Cell → Prop))
def Own (Z : State) (h : Heap) (M : Hp) : Prop := Ext Z.heap h ∧ (∀ (i : Nat) x, M[i]? = some x → Z.heap.size ≤ x.1 ∧ ∃ c : Cell, h[x.1]? = some c ∧ x.2 c) ∧ ∀ (i j : Nat) x y, M[i]? = some x → M[j]? = some y → x.1 = y.1 → i = j
theorem Own.ch {Z : State} {h h' : Heap} {M : Hp} {i : Nat} {a : Addr} {P P' : Cell → Prop} (O : Own Z h M) (hi : M[i]? = some (a, P)) (hs : h.size ≤ h'.size) (hk : ∀ (x : Addr) (c : Cell), h[x]? = some c → x ≠ a → h'[x]? = some c) (hc : ∃ c : Cell, h'[a]? = some c ∧ P' c) : Own Z h' (M.set i (a, P')) := by
  obtain ⟨o1, o2, o3⟩ := O
  have hil : i < M.length := (List.getElem?_eq_some_iff.mp hi).1
  have key : ∀ (j : Nat) x, (M.set i (a, P'))[j]? = some x → (j = i ∧ x = (a, P')) ∨ (j ≠ i ∧ M[j]? = some x) := by
    intro j x hx
    by_cases e : j = i
    · subst e
      rw [List.getElem?_set_self hil] at hx
      exact Or.inl ⟨rfl, (Option.some.inj hx).symm⟩
    · rw [List.getElem?_set_ne (Ne.symm e)] at hx
      exact Or.inr ⟨e, hx⟩
  refine ⟨⟨Nat.le_trans o1.1 hs, fun x c hx => hk x c (o1.2 x c hx) ?_⟩, fun j x hx => ?_, fun j j' x y hx hy e => ?_⟩
  · have h1 := (Array.getElem?_eq_some_iff.mp hx).1
    have h2 := (o2 i _ hi).1
    exact Nat.ne_of_lt (Nat.lt_of_lt_of_le h1 h2)
  · rcases key j x hx with ⟨rfl, rfl⟩ | ⟨ne, hx'⟩
    · exact ⟨(o2 j _ hi).1, hc⟩
    · obtain ⟨q1, c, q2, q3⟩ := o2 j x hx'
      exact ⟨q1, c, hk _ _ q2 (fun e => ne (o3 j i _ _ hx' hi e)), q3⟩
  · rcases key j x hx with ⟨rfl, rfl⟩ | ⟨ne, hx'⟩ <;> rcases key j' y hy with ⟨rfl, rfl⟩ | ⟨ne', hy'⟩
    · rfl
    · exact o3 _ _ _ _ hi hy' e
    · exact o3 _ _ _ _ hx' hi e
    · exact o3 _ _ _ _ hx' hy' e
theorem Own.upd {Z : State} {h h' : Heap} {M : Hp} {i : Nat} {a : Addr} {P P' : Cell → Prop} {sl : Nat} {v : Value} (O : Own Z h M) (hi : M[i]? = some (a, P)) (W : Wr h h' a sl v) (q : ∀ c : Cell, h[a]? = some c → P c → P' (c.setSlot sl v)) : Own Z h' (M.set i (a, P')) := by
  refine O.ch hi (Nat.le_of_eq W.size.symm) (fun x c hx ne => ?_) ?_
  · obtain ⟨c', e1, -, -, -, e5, -⟩ := wr_at W hx
    rw [e1, e5 ne]
  · obtain ⟨-, c, h1, h2⟩ := O.2.1 i _ hi
    obtain ⟨c', e1, -, -, -, -, -, e7⟩ := wr_at W h1
    exact ⟨c', e1, by rw [(e7 rfl).1]; exact q c h1 h2⟩
theorem Own.new {Z : State} {h h' : Heap} {M : Hp} {P : Cell → Prop} {c : Cell} (O : Own Z h M) (E : Ext h h') (hc : h'[h.size]? = some c) (q : P c) : Own Z h' ((h.size, P) :: M) := by
  obtain ⟨o1, o2, o3⟩ := O
  have lt : ∀ (j : Nat) x, M[j]? = some x → x.1 < h.size := fun j x hx => by
    obtain ⟨-, c, h1, -⟩ := o2 j x hx
    exact (Array.getElem?_eq_some_iff.mp h1).1
  refine ⟨⟨Nat.le_trans o1.1 E.1, fun x c hx => E.2 _ _ (o1.2 x c hx)⟩, fun j x hx => ?_, fun j j' x y hx hy e => ?_⟩
  · cases j with
    | zero => cases hx; exact ⟨o1.1, c, hc, q⟩
    | succ j => obtain ⟨q1, c, q2, q3⟩ := o2 j x hx; exact ⟨q1, c, E.2 _ _ q2, q3⟩
  · cases j <;> cases j'
    · rfl
    · cases hx; exact absurd e (Nat.ne_of_gt (lt _ _ hy))
    · cases hy; exact absurd e (Nat.ne_of_lt (lt _ _ hx))
    · exact congrArg _ (o3 _ _ _ _ hx hy e)
theorem Own.perm {Z : State} {h : Heap} {M M' : Hp} (O : Own Z h M) (p : M.Perm M') : Own Z h M' := by
  obtain ⟨o1, o2, o3⟩ := O
  have nd : (M.map Prod.fst).Nodup := by
    rw [List.nodup_iff_pairwise_ne, List.pairwise_iff_getElem]
    intro i j hi hj lt e
    simp only [List.length_map] at hi hj
    simp only [List.getElem_map] at e
    exact absurd (o3 i j _ _ (List.getElem?_eq_getElem hi) (List.getElem?_eq_getElem hj) e) (Nat.ne_of_lt lt)
  have nd' : (M'.map Prod.fst).Nodup := (p.map _).nodup_iff.mp nd
  refine ⟨o1, fun i x hx => ?_, fun i j x y hx hy e => ?_⟩
  · obtain ⟨j, hj⟩ := List.mem_iff_getElem?.mp (p.mem_iff.mpr (List.mem_of_getElem? hx))
    exact o2 j x hj
  · rw [List.nodup_iff_pairwise_ne, List.pairwise_iff_getElem] at nd'
    obtain ⟨hi, rfl⟩ := List.getElem?_eq_some_iff.mp hx
    obtain ⟨hj, rfl⟩ := List.getElem?_eq_some_iff.mp hy
    rcases Nat.lt_trichotomy i j with lt | rfl | lt
    · exact (nd' i j (by simpa using hi) (by simpa using hj) lt (by simpa using e)).elim
    · rfl
    · exact (nd' j i (by simpa using hj) (by simpa using hi) lt (by simpa using e.symm)).elim
theorem Own.ne {Z : State} {h : Heap} {M : Hp} {i j : Nat} {a b : Addr} {P P' : Cell → Prop} (O : Own Z h M) (hi : M[i]? = some (a, P)) (hj : M[j]? = some (b, P')) (ne : i ≠ j) : a ≠ b := fun e => ne (O.2.2 i j _ _ hi hj e)
/-! what a cell is: an object of the class C with these fields; an array of ints (bytes, booleans ..), an array of longs -/
abbrev Fd : Type := String × String × String × Value
def Apart (Z : State) (fs : List Fd) : Prop := ∀ (i j : Nat) f g, fs[i]? = some f → fs[j]? = some g → Jvm.RoadKit.slotOf Z f.1 f.2.1 f.2.2.1 = Jvm.RoadKit.slotOf Z g.1 g.2.1 g.2.2.1 → i = j
def Obj (Z : State) (C : String) (fs : List Fd) (c : Cell) : Prop := (∀ (h : Heap) (a : Addr), h[a]? = some c → Exa Z h a C ∧ ∀ (i : Nat) f, fs[i]? = some f → Fld Z h a f.1 f.2.1 f.2.2.1 f.2.2.2) ∧ Apart Z fs
def ArI (Z : State) (ty : FieldType) (vs : List Int32) (c : Cell) : Prop := Z.isArrayOf c ty ∧ c.vm ≠ .unknown ∧ c.slots = (vs.map Value.int).toArray ∧ vs.length < 2 ^ 31 ∧ ∀ x ∈ vs, fits ty (.int x) = true
def ArL (Z : State) (vs : List Int64) (c : Cell) : Prop := Z.isArrayOf c .long ∧ c.vm ≠ .unknown ∧ c.slots = (vs.map Value.long).toArray ∧ vs.length < 2 ^ 31
theorem exa_at_cell {Z : State} {h h' : Heap} {a a' : Addr} {C : String} {c : Cell} (E : Exa Z h a C) (hc : h[a]? = some c) (hc' : h'[a']? = some c) : Exa Z h' a' C := by
  obtain ⟨c1, k, h1, r⟩ := E
  cases h1.symm.trans hc
  exact ⟨_, k, hc', r⟩
theorem fld_at_cell {Z : State} {h h' : Heap} {a a' : Addr} {C n d : String} {v : Value} {c : Cell} (E : Fld Z h a C n d v) (hc : h[a]? = some c) (hc' : h'[a']? = some c) : Fld Z h' a' C n d v := by
  obtain ⟨c1, cf, k, i, f, h1, r⟩ := E
  cases h1.symm.trans hc
  exact ⟨_, cf, k, i, f, hc', r⟩
theorem Obj.put {Z : State} {C O n d : String} {fs : List Fd} {c : Cell} {j : Nat} {v w : Value} (B : Obj Z C fs c) (hj : fs[j]? = some (O, n, d, w)) {h h' : Heap} {a : Addr} (hc : h[a]? = some c) (W : Wr h h' a (Jvm.RoadKit.slotOf Z O n d) v) : Obj Z C (fs.set j (O, n, d, v)) (c.setSlot (Jvm.RoadKit.slotOf Z O n d) v) := by
  obtain ⟨b1, b2⟩ := B
  have hl : j < fs.length := (List.getElem?_eq_some_iff.mp hj).1
  have key : ∀ (i : Nat) x, (fs.set j (O, n, d, v))[i]? = some x → (i = j ∧ x = (O, n, d, v)) ∨ (i ≠ j ∧ fs[i]? = some x) := by
    intro i x hx
    by_cases e : i = j
    · subst e; rw [List.getElem?_set_self hl] at hx; exact Or.inl ⟨rfl, (Option.some.inj hx).symm⟩
    · rw [List.getElem?_set_ne (Ne.symm e)] at hx; exact Or.inr ⟨e, hx⟩
  have hnew : h'[a]? = some (c.setSlot (Jvm.RoadKit.slotOf Z O n d) v) := by
    obtain ⟨c', e1, -, -, -, -, -, e7⟩ := wr_at W hc
    rw [e1, (e7 rfl).1]
  refine ⟨fun h2 a2 h2c => ⟨exa_at_cell ((b1 h a hc).1.wr W) hnew h2c, fun i f hf => ?_⟩, fun i i' f g hf hg e => ?_⟩
  · rcases key i f hf with ⟨rfl, rfl⟩ | ⟨ne, hf'⟩
    · exact fld_at_cell (((b1 h a hc).2 i _ hj).same W) hnew h2c
    · exact fld_at_cell (((b1 h a hc).2 i _ hf').other W (Or.inr fun e => ne (b2 i j _ _ hf' hj e))) hnew h2c
  · rcases key i f hf with ⟨rfl, rfl⟩ | ⟨ne, hf'⟩ <;> rcases key i' g hg with ⟨rfl, rfl⟩ | ⟨ne', hg'⟩
    · rfl
    · exact b2 _ _ _ _ hj hg' e
    · exact b2 _ _ _ _ hf' hj e
    · exact b2 _ _ _ _ hf' hg' e
theorem ArI.arr {Z : State} {ty : FieldType} {vs : List Int32} {c : Cell} {h : Heap} {a : Addr} (B : ArI Z ty vs c) (hc : h[a]? = some c) : Arr Z h a c ty := ⟨hc, B.1, B.2.1⟩
theorem ArL.arr {Z : State} {vs : List Int64} {c : Cell} {h : Heap} {a : Addr} (B : ArL Z vs c) (hc : h[a]? = some c) : Arr Z h a c .long := ⟨hc, B.1, B.2.1⟩
theorem ArI.size {Z : State} {ty : FieldType} {vs : List Int32} {c : Cell} (B : ArI Z ty vs c) : c.slots.size = vs.length := by rw [B.2.2.1]; simp
theorem ArL.size {Z : State} {vs : List Int64} {c : Cell} (B : ArL Z vs c) : c.slots.size = vs.length := by rw [B.2.2.1]; simp
theorem ArI.put {Z : State} {ty : FieldType} {vs : List Int32} {c : Cell} (B : ArI Z ty vs c) (j : Nat) {x : Int32} (hx : fits ty (.int x) = true) : ArI Z ty (vs.set j x) (c.setSlot j (.int x)) := by
  refine ⟨B.1, B.2.1, ?_, by simpa using B.2.2.2.1, fun y hy => ?_⟩
  · show c.slots.setIfInBounds j (.int x) = _
    rw [B.2.2.1]; apply Array.ext'; simp [List.map_set]
  · rcases List.mem_or_eq_of_mem_set hy with h | rfl
    · exact B.2.2.2.2 y h
    · exact hx
theorem ArL.put {Z : State} {vs : List Int64} {c : Cell} (B : ArL Z vs c) (j : Nat) {x : Int64} : ArL Z (vs.set j x) (c.setSlot j (.long x)) := by
  refine ⟨B.1, B.2.1, ?_, by simpa using B.2.2.2⟩
  show c.slots.setIfInBounds j (.long x) = _
  rw [B.2.2.1]; apply Array.ext'; simp [List.map_set]
/-! OWN KIT 2: where a run stands, and how it ends -/
abbrev Cx : Type := Program × Launch × Env × Room × State × MethodId × Array Value × List Frame × Method × Code × (Option Value → Hp → Prop)
def Wk (Z : State) : Cx → State → Nat → Nat → Hp → Prop
  | (p, l, e, R, s, m, args, below, meth, c, _), T, cn, sn, M => ∃ locs, Stand p l e R s m args below meth c T locs cn sn ∧ Fr Z.heap.size locs ∧ Own Z T.heap M
def Ends (Z : State) : Cx → State → Nat → Array Slot → List Value → Prop
  | (p, l, e, R, s, m, args, below, meth, c, Q), T, pc, Ls, st => ∃ t o, Steps p.tables e below (T.setTop (mkF m pc Ls st)) t ∧ t.status = .running ∧ Ended t below o ∧ ∃ v L, o = .returned v ∧ (Fr Z.heap.size L ∧ ∃ M, Q v M ∧ Own Z t.heap M) ∧ FrameEnd s o t L R.cells R.slots
/-- from this frame, over such a heap, the run ends as Q says -/
def Go (Z : State) (k : Cx) (cn sn : Nat) (M : Hp) (pc : Nat) (Ls : Array Slot) (st : List Value) : Prop := ∀ T, Wk Z k T cn sn M → Ends Z k T pc Ls st
def Tb (Z : State) : Prop := ∃ a0, ∀ d ∈ tables_1, d.before a0 Z = true
def Ok (Z : State) (k : Cx) (R : Room) (Q : Option Value → Hp → Prop) (y : MethodName) (b : ByteArray) (ml : Nat) (rt : Option FieldType) : Prop :=
  match k with
  | (p, l, e, R', s, m, args, below, meth, c, Q') => p.tables.exec = Jvm.exec ∧ Z.Warmed39 s.vm ∧ c.code = b ∧ c.maxLocals = ml ∧ s.vm.findClass y.cls = some m.cls ∧ meth.name = y.name ∧ meth.sig.returnType = rt ∧ meth.locks = false ∧ Tb Z ∧ R' = R ∧ Q' = Q
theorem Ok.tb {Z : State} {k : Cx} {R : Room} {Q : Option Value → Hp → Prop} {y : MethodName} {b : ByteArray} {ml : Nat} {rt : Option FieldType} (H : Ok Z k R Q y b ml rt) : Tb Z := by
  obtain ⟨p, l, e, R', s, m, args, below, meth, c, Q'⟩ := k
  exact H.2.2.2.2.2.2.2.2.1
section Kit
variable {ty : FieldType} {Z : State} {k : Cx} {R : Room} {Q : Option Value → Hp → Prop} {y : MethodName} {b : ByteArray} {ml : Nat} {rt : Option FieldType} {cn sn : Nat} {M : Hp} {pc pc' : Nat} {Ls : Array Slot} {st : List Value}
theorem mem {i : Nat} {d : Jvm.Cond} (h : tables_1[i]? = some d) : d ∈ tables_1 := List.mem_of_getElem? h
theorem Go.more {cn' sn' : Nat} (hc : cn ≤ cn') (hs : sn ≤ sn') (g : Go Z k cn' sn' M pc Ls st) : Go Z k cn sn M pc Ls st := by
  obtain ⟨p, l, e, R, s, m, args, below, meth, c, Q⟩ := k
  intro T w
  obtain ⟨locs, X, F, O⟩ := w
  exact g T ⟨locs, X.more hc hs, F, O⟩
theorem Go.perm {M' : Hp} (p : M.Perm M') (g : Go Z k cn sn M' pc Ls st) : Go Z k cn sn M pc Ls st := by
  obtain ⟨p', l, e, R, s, m, args, below, meth, c, Q⟩ := k
  intro T w
  obtain ⟨locs, X, F, O⟩ := w
  exact g T ⟨locs, X, F, O.perm p⟩
theorem Go.fact {φ : Prop} (f : ∀ h, Own Z h M → φ) (g : φ → Go Z k cn sn M pc Ls st) : Go Z k cn sn M pc Ls st := by
  obtain ⟨p', l, e, R, s, m, args, below, meth, c, Q⟩ := k
  intro T w
  have w' := w
  obtain ⟨locs, X, F, O⟩ := w
  exact g (f _ O) T w'
theorem Go.cast {pc2 : Nat} {Ls2 : Array Slot} {st2 : List Value} {M2 : Hp} (h1 : pc = pc2) (h2 : Ls = Ls2) (h3 : st = st2) (h4 : M = M2) (g : Go Z k cn sn M2 pc2 Ls2 st2) : Go Z k cn sn M pc Ls st := by
  subst h1 h2 h3 h4; exact g
theorem s_iloadn (H : Ok Z k R Q y b ml rt) {i : Fin 4} {z : Int32} (hd : decode b pc = .ok (.iload_n i, 1)) (hl : Ls[i.val]? = some (.val (.int z))) (hp : pc + 1 = pc') (g : Go Z k cn sn M pc' Ls (.int z :: st)) : Go Z k cn sn M pc Ls (st) := by
  obtain ⟨p, l, e, R', s, m, args, below, meth, c, Q'⟩ := k
  obtain ⟨hx, hZ, hby, -⟩ := H
  subst hp
  intro T w
  have w' := w
  obtain ⟨locs, X, F, O⟩ := w
  obtain ⟨t, o, hs, r⟩ := g T w'
  exact ⟨t, o, XS.iloadN X.here hx rfl (hb hby hd) hl hs, r⟩
theorem s_iload (H : Ok Z k R Q y b ml rt) {i : Nat} {z : Int32} (hd : decode b pc = .ok (.iload i, 2)) (hl : Ls[i]? = some (.val (.int z))) (hp : pc + 2 = pc') (g : Go Z k cn sn M pc' Ls (.int z :: st)) : Go Z k cn sn M pc Ls (st) := by
  obtain ⟨p, l, e, R', s, m, args, below, meth, c, Q'⟩ := k
  obtain ⟨hx, hZ, hby, -⟩ := H
  subst hp
  intro T w
  have w' := w
  obtain ⟨locs, X, F, O⟩ := w
  obtain ⟨t, o, hs, r⟩ := g T w'
  exact ⟨t, o, XS.iload X.here hx rfl (hb hby hd) hl hs, r⟩
theorem s_istoren (H : Ok Z k R Q y b ml rt) {i : Fin 4} {x : Int32} {L' : Int32 → Array Slot} (hd : decode b pc = .ok (.istore_n i, 1)) (hl : ∀ z, storeLocals Ls i.val (.int z) = some (L' z)) (hp : pc + 1 = pc') (g : ∀ z, z = x → Go Z k cn sn M pc' (L' z) st) : Go Z k cn sn M pc Ls (.int x :: st) := by
  obtain ⟨p, l, e, R', s, m, args, below, meth, c, Q'⟩ := k
  obtain ⟨hx, hZ, hby, -⟩ := H
  subst hp
  intro T w
  have w' := w
  obtain ⟨locs, X, F, O⟩ := w
  obtain ⟨t, o, hs, r⟩ := g x rfl T w'
  exact ⟨t, o, XS.istoreN X.here hx rfl (hb hby hd) rfl (hl x) hs, r⟩
theorem s_istore (H : Ok Z k R Q y b ml rt) {i : Nat} {x : Int32} {L' : Int32 → Array Slot} (hd : decode b pc = .ok (.istore i, 2)) (hl : ∀ z, storeLocals Ls i (.int z) = some (L' z)) (hp : pc + 2 = pc') (g : ∀ z, z = x → Go Z k cn sn M pc' (L' z) st) : Go Z k cn sn M pc Ls (.int x :: st) := by
  obtain ⟨p, l, e, R', s, m, args, below, meth, c, Q'⟩ := k
  obtain ⟨hx, hZ, hby, -⟩ := H
  subst hp
  intro T w
  have w' := w
  obtain ⟨locs, X, F, O⟩ := w
  obtain ⟨t, o, hs, r⟩ := g x rfl T w'
  exact ⟨t, o, XS.istore X.here hx rfl (hb hby hd) rfl (hl x) hs, r⟩
theorem s_lloadn (H : Ok Z k R Q y b ml rt) {i : Fin 4} {z : Int64} (hd : decode b pc = .ok (.lload_n i, 1)) (hl : Ls[i.val]? = some (.val (.long z))) (hp : pc + 1 = pc') (g : Go Z k cn sn M pc' Ls (.long z :: st)) : Go Z k cn sn M pc Ls (st) := by
  obtain ⟨p, l, e, R', s, m, args, below, meth, c, Q'⟩ := k
  obtain ⟨hx, hZ, hby, -⟩ := H
  subst hp
  intro T w
  have w' := w
  obtain ⟨locs, X, F, O⟩ := w
  obtain ⟨t, o, hs, r⟩ := g T w'
  exact ⟨t, o, XS.lloadN X.here hx rfl (hb hby hd) hl hs, r⟩
theorem s_lload (H : Ok Z k R Q y b ml rt) {i : Nat} {z : Int64} (hd : decode b pc = .ok (.lload i, 2)) (hl : Ls[i]? = some (.val (.long z))) (hp : pc + 2 = pc') (g : Go Z k cn sn M pc' Ls (.long z :: st)) : Go Z k cn sn M pc Ls (st) := by
  obtain ⟨p, l, e, R', s, m, args, below, meth, c, Q'⟩ := k
  obtain ⟨hx, hZ, hby, -⟩ := H
  subst hp
  intro T w
  have w' := w
  obtain ⟨locs, X, F, O⟩ := w
  obtain ⟨t, o, hs, r⟩ := g T w'
  exact ⟨t, o, XS.lload X.here hx rfl (hb hby hd) hl hs, r⟩
theorem s_lstoren (H : Ok Z k R Q y b ml rt) {i : Fin 4} {x : Int64} {L' : Int64 → Array Slot} (hd : decode b pc = .ok (.lstore_n i, 1)) (hl : ∀ z, storeLocals Ls i.val (.long z) = some (L' z)) (hp : pc + 1 = pc') (g : ∀ z, z = x → Go Z k cn sn M pc' (L' z) st) : Go Z k cn sn M pc Ls (.long x :: st) := by
  obtain ⟨p, l, e, R', s, m, args, below, meth, c, Q'⟩ := k
  obtain ⟨hx, hZ, hby, -⟩ := H
  subst hp
  intro T w
  have w' := w
  obtain ⟨locs, X, F, O⟩ := w
  obtain ⟨t, o, hs, r⟩ := g x rfl T w'
  exact ⟨t, o, XS.lstoreN X.here hx rfl (hb hby hd) rfl (hl x) hs, r⟩
theorem s_lstore (H : Ok Z k R Q y b ml rt) {i : Nat} {x : Int64} {L' : Int64 → Array Slot} (hd : decode b pc = .ok (.lstore i, 2)) (hl : ∀ z, storeLocals Ls i (.long z) = some (L' z)) (hp : pc + 2 = pc') (g : ∀ z, z = x → Go Z k cn sn M pc' (L' z) st) : Go Z k cn sn M pc Ls (.long x :: st) := by
  obtain ⟨p, l, e, R', s, m, args, below, meth, c, Q'⟩ := k
  obtain ⟨hx, hZ, hby, -⟩ := H
  subst hp
  intro T w
  have w' := w
  obtain ⟨locs, X, F, O⟩ := w
  obtain ⟨t, o, hs, r⟩ := g x rfl T w'
  exact ⟨t, o, XS.lstore X.here hx rfl (hb hby hd) rfl (hl x) hs, r⟩
theorem s_aloadn (H : Ok Z k R Q y b ml rt) {i : Fin 4} {v : Value} (hd : decode b pc = .ok (.aload_n i, 1)) (hl : Ls[i.val]? = some (.val v)) (hv : v.isRef = true) (hp : pc + 1 = pc') (g : Go Z k cn sn M pc' Ls (v :: st)) : Go Z k cn sn M pc Ls (st) := by
  obtain ⟨p, l, e, R', s, m, args, below, meth, c, Q'⟩ := k
  obtain ⟨hx, hZ, hby, -⟩ := H
  subst hp
  intro T w
  have w' := w
  obtain ⟨locs, X, F, O⟩ := w
  obtain ⟨t, o, hs, r⟩ := g T w'
  exact ⟨t, o, XS.aloadN X.here hx rfl (hb hby hd) hl hv hs, r⟩
theorem s_aload (H : Ok Z k R Q y b ml rt) {i : Nat} {v : Value} (hd : decode b pc = .ok (.aload i, 2)) (hl : Ls[i]? = some (.val v)) (hv : v.isRef = true) (hp : pc + 2 = pc') (g : Go Z k cn sn M pc' Ls (v :: st)) : Go Z k cn sn M pc Ls (st) := by
  obtain ⟨p, l, e, R', s, m, args, below, meth, c, Q'⟩ := k
  obtain ⟨hx, hZ, hby, -⟩ := H
  subst hp
  intro T w
  have w' := w
  obtain ⟨locs, X, F, O⟩ := w
  obtain ⟨t, o, hs, r⟩ := g T w'
  exact ⟨t, o, XS.aload X.here hx rfl (hb hby hd) hl hv hs, r⟩
theorem s_astoren (H : Ok Z k R Q y b ml rt) {i : Fin 4} {v : Value} {L' : Array Slot} (hd : decode b pc = .ok (.astore_n i, 1)) (hv : v.isRef = true) (hl : storeLocals Ls i.val v = some L') (hp : pc + 1 = pc') (g : Go Z k cn sn M pc' L' (st)) : Go Z k cn sn M pc Ls (v :: st) := by
  obtain ⟨p, l, e, R', s, m, args, below, meth, c, Q'⟩ := k
  obtain ⟨hx, hZ, hby, -⟩ := H
  subst hp
  intro T w
  have w' := w
  obtain ⟨locs, X, F, O⟩ := w
  obtain ⟨t, o, hs, r⟩ := g T w'
  exact ⟨t, o, XS.astoreN X.here hx rfl (hb hby hd) rfl hv hl hs, r⟩
theorem s_astore (H : Ok Z k R Q y b ml rt) {i : Nat} {v : Value} {L' : Array Slot} (hd : decode b pc = .ok (.astore i, 2)) (hv : v.isRef = true) (hl : storeLocals Ls i v = some L') (hp : pc + 2 = pc') (g : Go Z k cn sn M pc' L' (st)) : Go Z k cn sn M pc Ls (v :: st) := by
  obtain ⟨p, l, e, R', s, m, args, below, meth, c, Q'⟩ := k
  obtain ⟨hx, hZ, hby, -⟩ := H
  subst hp
  intro T w
  have w' := w
  obtain ⟨locs, X, F, O⟩ := w
  obtain ⟨t, o, hs, r⟩ := g T w'
  exact ⟨t, o, XS.astore X.here hx rfl (hb hby hd) rfl hv hl hs, r⟩
theorem s_iconst (H : Ok Z k R Q y b ml rt) {i : Int} {z : Int32} (hd : decode b pc = .ok (.iconst i, 1)) (hz : z = Int32.ofInt i) (hp : pc + 1 = pc') (g : Go Z k cn sn M pc' Ls (.int z :: st)) : Go Z k cn sn M pc Ls (st) := by
  obtain ⟨p, l, e, R', s, m, args, below, meth, c, Q'⟩ := k
  obtain ⟨hx, hZ, hby, -⟩ := H
  subst hp
  intro T w
  have w' := w
  obtain ⟨locs, X, F, O⟩ := w
  obtain ⟨t, o, hs, r⟩ := g T w'
  exact ⟨t, o, XS.iconst X.here hx rfl (hb hby hd) (hz ▸ hs), r⟩
theorem s_bipush (H : Ok Z k R Q y b ml rt) {i : Int} {z : Int32} (hd : decode b pc = .ok (.bipush i, 2)) (hz : z = (Int8.ofInt i).toInt32) (hp : pc + 2 = pc') (g : Go Z k cn sn M pc' Ls (.int z :: st)) : Go Z k cn sn M pc Ls (st) := by
  obtain ⟨p, l, e, R', s, m, args, below, meth, c, Q'⟩ := k
  obtain ⟨hx, hZ, hby, -⟩ := H
  subst hp
  intro T w
  have w' := w
  obtain ⟨locs, X, F, O⟩ := w
  obtain ⟨t, o, hs, r⟩ := g T w'
  exact ⟨t, o, XS.bipush X.here hx rfl (hb hby hd) (hz ▸ hs), r⟩
theorem s_sipush (H : Ok Z k R Q y b ml rt) {i : Int} {z : Int32} (hd : decode b pc = .ok (.sipush i, 3)) (hz : z = (Int16.ofInt i).toInt32) (hp : pc + 3 = pc') (g : Go Z k cn sn M pc' Ls (.int z :: st)) : Go Z k cn sn M pc Ls (st) := by
  obtain ⟨p, l, e, R', s, m, args, below, meth, c, Q'⟩ := k
  obtain ⟨hx, hZ, hby, -⟩ := H
  subst hp
  intro T w
  have w' := w
  obtain ⟨locs, X, F, O⟩ := w
  obtain ⟨t, o, hs, r⟩ := g T w'
  exact ⟨t, o, XS.sipush X.here hx rfl (hb hby hd) (hz ▸ hs), r⟩
theorem s_lconst (H : Ok Z k R Q y b ml rt) {i : Fin 2} {z : Int64} (hd : decode b pc = .ok (.lconst i, 1)) (hz : z = Int64.ofNat i) (hp : pc + 1 = pc') (g : Go Z k cn sn M pc' Ls (.long z :: st)) : Go Z k cn sn M pc Ls (st) := by
  obtain ⟨p, l, e, R', s, m, args, below, meth, c, Q'⟩ := k
  obtain ⟨hx, hZ, hby, -⟩ := H
  subst hp
  intro T w
  have w' := w
  obtain ⟨locs, X, F, O⟩ := w
  obtain ⟨t, o, hs, r⟩ := g T w'
  exact ⟨t, o, XS.lconst X.here hx rfl (hb hby hd) (hz ▸ hs), r⟩
theorem s_anull (H : Ok Z k R Q y b ml rt) (hd : decode b pc = .ok (.aconst_null, 1)) (hp : pc + 1 = pc') (g : Go Z k cn sn M pc' Ls (.null :: st)) : Go Z k cn sn M pc Ls (st) := by
  obtain ⟨p, l, e, R', s, m, args, below, meth, c, Q'⟩ := k
  obtain ⟨hx, hZ, hby, -⟩ := H
  subst hp
  intro T w
  have w' := w
  obtain ⟨locs, X, F, O⟩ := w
  obtain ⟨t, o, hs, r⟩ := g T w'
  exact ⟨t, o, XS.aconstNull X.here hx rfl (hb hby hd) hs, r⟩
theorem s_iadd (H : Ok Z k R Q y b ml rt) {x u : Int32} (hd : decode b pc = .ok (.iadd, 1)) (hp : pc + 1 = pc') (g : Go Z k cn sn M pc' Ls (.int (x + u) :: st)) : Go Z k cn sn M pc Ls (.int u :: .int x :: st) := by
  obtain ⟨p, l, e, R', s, m, args, below, meth, c, Q'⟩ := k
  obtain ⟨hx, hZ, hby, -⟩ := H
  subst hp
  intro T w
  have w' := w
  obtain ⟨locs, X, F, O⟩ := w
  obtain ⟨t, o, hs, r⟩ := g T w'
  exact ⟨t, o, XS.iadd X.here hx rfl (hb hby hd) rfl hs, r⟩
theorem s_isub (H : Ok Z k R Q y b ml rt) {x u : Int32} (hd : decode b pc = .ok (.isub, 1)) (hp : pc + 1 = pc') (g : Go Z k cn sn M pc' Ls (.int (x - u) :: st)) : Go Z k cn sn M pc Ls (.int u :: .int x :: st) := by
  obtain ⟨p, l, e, R', s, m, args, below, meth, c, Q'⟩ := k
  obtain ⟨hx, hZ, hby, -⟩ := H
  subst hp
  intro T w
  have w' := w
  obtain ⟨locs, X, F, O⟩ := w
  obtain ⟨t, o, hs, r⟩ := g T w'
  exact ⟨t, o, XS.isub X.here hx rfl (hb hby hd) rfl hs, r⟩
theorem s_imul (H : Ok Z k R Q y b ml rt) {x u : Int32} (hd : decode b pc = .ok (.imul, 1)) (hp : pc + 1 = pc') (g : Go Z k cn sn M pc' Ls (.int (x * u) :: st)) : Go Z k cn sn M pc Ls (.int u :: .int x :: st) := by
  obtain ⟨p, l, e, R', s, m, args, below, meth, c, Q'⟩ := k
  obtain ⟨hx, hZ, hby, -⟩ := H
  subst hp
  intro T w
  have w' := w
  obtain ⟨locs, X, F, O⟩ := w
  obtain ⟨t, o, hs, r⟩ := g T w'
  exact ⟨t, o, XS.imul X.here hx rfl (hb hby hd) rfl hs, r⟩
theorem s_iand (H : Ok Z k R Q y b ml rt) {x u : Int32} (hd : decode b pc = .ok (.iand, 1)) (hp : pc + 1 = pc') (g : Go Z k cn sn M pc' Ls (.int (x &&& u) :: st)) : Go Z k cn sn M pc Ls (.int u :: .int x :: st) := by
  obtain ⟨p, l, e, R', s, m, args, below, meth, c, Q'⟩ := k
  obtain ⟨hx, hZ, hby, -⟩ := H
  subst hp
  intro T w
  have w' := w
  obtain ⟨locs, X, F, O⟩ := w
  obtain ⟨t, o, hs, r⟩ := g T w'
  exact ⟨t, o, XS.iand X.here hx rfl (hb hby hd) rfl hs, r⟩
theorem s_ior (H : Ok Z k R Q y b ml rt) {x u : Int32} (hd : decode b pc = .ok (.ior, 1)) (hp : pc + 1 = pc') (g : Go Z k cn sn M pc' Ls (.int (x ||| u) :: st)) : Go Z k cn sn M pc Ls (.int u :: .int x :: st) := by
  obtain ⟨p, l, e, R', s, m, args, below, meth, c, Q'⟩ := k
  obtain ⟨hx, hZ, hby, -⟩ := H
  subst hp
  intro T w
  have w' := w
  obtain ⟨locs, X, F, O⟩ := w
  obtain ⟨t, o, hs, r⟩ := g T w'
  exact ⟨t, o, XS.ior X.here hx rfl (hb hby hd) rfl hs, r⟩
theorem s_ixor (H : Ok Z k R Q y b ml rt) {x u : Int32} (hd : decode b pc = .ok (.ixor, 1)) (hp : pc + 1 = pc') (g : Go Z k cn sn M pc' Ls (.int (x ^^^ u) :: st)) : Go Z k cn sn M pc Ls (.int u :: .int x :: st) := by
  obtain ⟨p, l, e, R', s, m, args, below, meth, c, Q'⟩ := k
  obtain ⟨hx, hZ, hby, -⟩ := H
  subst hp
  intro T w
  have w' := w
  obtain ⟨locs, X, F, O⟩ := w
  obtain ⟨t, o, hs, r⟩ := g T w'
  exact ⟨t, o, XS.ixor X.here hx rfl (hb hby hd) rfl hs, r⟩
theorem s_idiv (H : Ok Z k R Q y b ml rt) {x u : Int32} (hd : decode b pc = .ok (.idiv, 1)) (hu : u ≠ 0) (hp : pc + 1 = pc') (g : Go Z k cn sn M pc' Ls (.int (x / u) :: st)) : Go Z k cn sn M pc Ls (.int u :: .int x :: st) := by
  obtain ⟨p, l, e, R', s, m, args, below, meth, c, Q'⟩ := k
  obtain ⟨hx, hZ, hby, -⟩ := H
  subst hp
  intro T w
  have w' := w
  obtain ⟨locs, X, F, O⟩ := w
  obtain ⟨t, o, hs, r⟩ := g T w'
  exact ⟨t, o, XS.idiv X.here hx rfl (hb hby hd) rfl hu hs, r⟩
theorem s_ineg (H : Ok Z k R Q y b ml rt) {x : Int32} (hd : decode b pc = .ok (.ineg, 1)) (hp : pc + 1 = pc') (g : Go Z k cn sn M pc' Ls (.int (-x) :: st)) : Go Z k cn sn M pc Ls (.int x :: st) := by
  obtain ⟨p, l, e, R', s, m, args, below, meth, c, Q'⟩ := k
  obtain ⟨hx, hZ, hby, -⟩ := H
  subst hp
  intro T w
  have w' := w
  obtain ⟨locs, X, F, O⟩ := w
  obtain ⟨t, o, hs, r⟩ := g T w'
  exact ⟨t, o, XS.ineg X.here hx rfl (hb hby hd) rfl hs, r⟩
theorem s_ladd (H : Ok Z k R Q y b ml rt) {x u : Int64} (hd : decode b pc = .ok (.ladd, 1)) (hp : pc + 1 = pc') (g : Go Z k cn sn M pc' Ls (.long (x + u) :: st)) : Go Z k cn sn M pc Ls (.long u :: .long x :: st) := by
  obtain ⟨p, l, e, R', s, m, args, below, meth, c, Q'⟩ := k
  obtain ⟨hx, hZ, hby, -⟩ := H
  subst hp
  intro T w
  have w' := w
  obtain ⟨locs, X, F, O⟩ := w
  obtain ⟨t, o, hs, r⟩ := g T w'
  exact ⟨t, o, XS.ladd X.here hx rfl (hb hby hd) rfl hs, r⟩
theorem s_lsub (H : Ok Z k R Q y b ml rt) {x u : Int64} (hd : decode b pc = .ok (.lsub, 1)) (hp : pc + 1 = pc') (g : Go Z k cn sn M pc' Ls (.long (x - u) :: st)) : Go Z k cn sn M pc Ls (.long u :: .long x :: st) := by
  obtain ⟨p, l, e, R', s, m, args, below, meth, c, Q'⟩ := k
  obtain ⟨hx, hZ, hby, -⟩ := H
  subst hp
  intro T w
  have w' := w
  obtain ⟨locs, X, F, O⟩ := w
  obtain ⟨t, o, hs, r⟩ := g T w'
  exact ⟨t, o, XS.lsub X.here hx rfl (hb hby hd) rfl hs, r⟩
theorem s_lmul (H : Ok Z k R Q y b ml rt) {x u : Int64} (hd : decode b pc = .ok (.lmul, 1)) (hp : pc + 1 = pc') (g : Go Z k cn sn M pc' Ls (.long (x * u) :: st)) : Go Z k cn sn M pc Ls (.long u :: .long x :: st) := by
  obtain ⟨p, l, e, R', s, m, args, below, meth, c, Q'⟩ := k
  obtain ⟨hx, hZ, hby, -⟩ := H
  subst hp
  intro T w
  have w' := w
  obtain ⟨locs, X, F, O⟩ := w
  obtain ⟨t, o, hs, r⟩ := g T w'
  exact ⟨t, o, XS.lmul X.here hx rfl (hb hby hd) rfl hs, r⟩
theorem s_land (H : Ok Z k R Q y b ml rt) {x u : Int64} (hd : decode b pc = .ok (.land, 1)) (hp : pc + 1 = pc') (g : Go Z k cn sn M pc' Ls (.long (x &&& u) :: st)) : Go Z k cn sn M pc Ls (.long u :: .long x :: st) := by
  obtain ⟨p, l, e, R', s, m, args, below, meth, c, Q'⟩ := k
  obtain ⟨hx, hZ, hby, -⟩ := H
  subst hp
  intro T w
  have w' := w
  obtain ⟨locs, X, F, O⟩ := w
  obtain ⟨t, o, hs, r⟩ := g T w'
  exact ⟨t, o, XS.land X.here hx rfl (hb hby hd) rfl hs, r⟩
theorem s_lor (H : Ok Z k R Q y b ml rt) {x u : Int64} (hd : decode b pc = .ok (.lor, 1)) (hp : pc + 1 = pc') (g : Go Z k cn sn M pc' Ls (.long (x ||| u) :: st)) : Go Z k cn sn M pc Ls (.long u :: .long x :: st) := by
  obtain ⟨p, l, e, R', s, m, args, below, meth, c, Q'⟩ := k
  obtain ⟨hx, hZ, hby, -⟩ := H
  subst hp
  intro T w
  have w' := w
  obtain ⟨locs, X, F, O⟩ := w
  obtain ⟨t, o, hs, r⟩ := g T w'
  exact ⟨t, o, XS.lor X.here hx rfl (hb hby hd) rfl hs, r⟩
theorem s_lxor (H : Ok Z k R Q y b ml rt) {x u : Int64} (hd : decode b pc = .ok (.lxor, 1)) (hp : pc + 1 = pc') (g : Go Z k cn sn M pc' Ls (.long (x ^^^ u) :: st)) : Go Z k cn sn M pc Ls (.long u :: .long x :: st) := by
  obtain ⟨p, l, e, R', s, m, args, below, meth, c, Q'⟩ := k
  obtain ⟨hx, hZ, hby, -⟩ := H
  subst hp
  intro T w
  have w' := w
  obtain ⟨locs, X, F, O⟩ := w
  obtain ⟨t, o, hs, r⟩ := g T w'
  exact ⟨t, o, XS.lxor X.here hx rfl (hb hby hd) rfl hs, r⟩
theorem s_ldiv (H : Ok Z k R Q y b ml rt) {x u : Int64} (hd : decode b pc = .ok (.ldiv, 1)) (hu : u ≠ 0) (hp : pc + 1 = pc') (g : Go Z k cn sn M pc' Ls (.long (x / u) :: st)) : Go Z k cn sn M pc Ls (.long u :: .long x :: st) := by
  obtain ⟨p, l, e, R', s, m, args, below, meth, c, Q'⟩ := k
  obtain ⟨hx, hZ, hby, -⟩ := H
  subst hp
  intro T w
  have w' := w
  obtain ⟨locs, X, F, O⟩ := w
  obtain ⟨t, o, hs, r⟩ := g T w'
  exact ⟨t, o, XS.ldiv X.here hx rfl (hb hby hd) rfl hu hs, r⟩
theorem s_lneg (H : Ok Z k R Q y b ml rt) {x : Int64} (hd : decode b pc = .ok (.lneg, 1)) (hp : pc + 1 = pc') (g : Go Z k cn sn M pc' Ls (.long (-x) :: st)) : Go Z k cn sn M pc Ls (.long x :: st) := by
  obtain ⟨p, l, e, R', s, m, args, below, meth, c, Q'⟩ := k
  obtain ⟨hx, hZ, hby, -⟩ := H
  subst hp
  intro T w
  have w' := w
  obtain ⟨locs, X, F, O⟩ := w
  obtain ⟨t, o, hs, r⟩ := g T w'
  exact ⟨t, o, XS.lneg X.here hx rfl (hb hby hd) rfl hs, r⟩
theorem s_irem (H : Ok Z k R Q y b ml rt) {x u : Int32} (hd : decode b pc = .ok (.irem, 1)) (hu : u ≠ 0) (hp : pc + 1 = pc') (g : Go Z k cn sn M pc' Ls (.int (x % u) :: st)) : Go Z k cn sn M pc Ls (.int u :: .int x :: st) := by
  obtain ⟨p, l, e, R', s, m, args, below, meth, c, Q'⟩ := k
  obtain ⟨hx, hZ, hby, -⟩ := H
  subst hp
  intro T w
  have w' := w
  obtain ⟨locs, X, F, O⟩ := w
  obtain ⟨t, o, hs, r⟩ := g T w'
  exact ⟨t, o, iremM X hx rfl (hb hby hd) rfl hu hs, r⟩
theorem s_lrem (H : Ok Z k R Q y b ml rt) {x u : Int64} (hd : decode b pc = .ok (.lrem, 1)) (hu : u ≠ 0) (hp : pc + 1 = pc') (g : Go Z k cn sn M pc' Ls (.long (x % u) :: st)) : Go Z k cn sn M pc Ls (.long u :: .long x :: st) := by
  obtain ⟨p, l, e, R', s, m, args, below, meth, c, Q'⟩ := k
  obtain ⟨hx, hZ, hby, -⟩ := H
  subst hp
  intro T w
  have w' := w
  obtain ⟨locs, X, F, O⟩ := w
  obtain ⟨t, o, hs, r⟩ := g T w'
  exact ⟨t, o, XS.lrem X.here hx rfl (hb hby hd) rfl hu (lrem_mod x u ▸ hs), r⟩
theorem s_ishl (H : Ok Z k R Q y b ml rt) {x u : Int32} (hd : decode b pc = .ok (.ishl, 1)) (hp : pc + 1 = pc') (g : Go Z k cn sn M pc' Ls (.int (x <<< (u &&& 31)) :: st)) : Go Z k cn sn M pc Ls (.int u :: .int x :: st) := by
  obtain ⟨p, l, e, R', s, m, args, below, meth, c, Q'⟩ := k
  obtain ⟨hx, hZ, hby, -⟩ := H
  subst hp
  intro T w
  have w' := w
  obtain ⟨locs, X, F, O⟩ := w
  obtain ⟨t, o, hs, r⟩ := g T w'
  exact ⟨t, o, XS.ishl X.here hx rfl (hb hby hd) rfl hs, r⟩
theorem s_ishr (H : Ok Z k R Q y b ml rt) {x u : Int32} (hd : decode b pc = .ok (.ishr, 1)) (hp : pc + 1 = pc') (g : Go Z k cn sn M pc' Ls (.int (x >>> (u &&& 31)) :: st)) : Go Z k cn sn M pc Ls (.int u :: .int x :: st) := by
  obtain ⟨p, l, e, R', s, m, args, below, meth, c, Q'⟩ := k
  obtain ⟨hx, hZ, hby, -⟩ := H
  subst hp
  intro T w
  have w' := w
  obtain ⟨locs, X, F, O⟩ := w
  obtain ⟨t, o, hs, r⟩ := g T w'
  exact ⟨t, o, XS.ishr X.here hx rfl (hb hby hd) rfl hs, r⟩
theorem s_iushr (H : Ok Z k R Q y b ml rt) {x u : Int32} (hd : decode b pc = .ok (.iushr, 1)) (hp : pc + 1 = pc') (g : Go Z k cn sn M pc' Ls (.int ((x.toUInt32 >>> (u &&& 31).toUInt32).toInt32) :: st)) : Go Z k cn sn M pc Ls (.int u :: .int x :: st) := by
  obtain ⟨p, l, e, R', s, m, args, below, meth, c, Q'⟩ := k
  obtain ⟨hx, hZ, hby, -⟩ := H
  subst hp
  intro T w
  have w' := w
  obtain ⟨locs, X, F, O⟩ := w
  obtain ⟨t, o, hs, r⟩ := g T w'
  exact ⟨t, o, XS.iushr X.here hx rfl (hb hby hd) rfl hs, r⟩
theorem s_lshl (H : Ok Z k R Q y b ml rt) {x : Int64} {u : Int32} (hd : decode b pc = .ok (.lshl, 1)) (hp : pc + 1 = pc') (g : Go Z k cn sn M pc' Ls (.long (x <<< (u &&& 0x3f).toInt64) :: st)) : Go Z k cn sn M pc Ls (.int u :: .long x :: st) := by
  obtain ⟨p, l, e, R', s, m, args, below, meth, c, Q'⟩ := k
  obtain ⟨hx, hZ, hby, -⟩ := H
  subst hp
  intro T w
  have w' := w
  obtain ⟨locs, X, F, O⟩ := w
  obtain ⟨t, o, hs, r⟩ := g T w'
  exact ⟨t, o, XS.lshl X.here hx rfl (hb hby hd) rfl hs, r⟩
theorem s_lshr (H : Ok Z k R Q y b ml rt) {x : Int64} {u : Int32} (hd : decode b pc = .ok (.lshr, 1)) (hp : pc + 1 = pc') (g : Go Z k cn sn M pc' Ls (.long (x >>> (u &&& 0x3f).toInt64) :: st)) : Go Z k cn sn M pc Ls (.int u :: .long x :: st) := by
  obtain ⟨p, l, e, R', s, m, args, below, meth, c, Q'⟩ := k
  obtain ⟨hx, hZ, hby, -⟩ := H
  subst hp
  intro T w
  have w' := w
  obtain ⟨locs, X, F, O⟩ := w
  obtain ⟨t, o, hs, r⟩ := g T w'
  exact ⟨t, o, XS.lshr X.here hx rfl (hb hby hd) rfl hs, r⟩
theorem s_lushr (H : Ok Z k R Q y b ml rt) {x : Int64} {u : Int32} (hd : decode b pc = .ok (.lushr, 1)) (hp : pc + 1 = pc') (g : Go Z k cn sn M pc' Ls (.long ((x.toUInt64 >>> (u &&& 0x3f).toInt64.toUInt64).toInt64) :: st)) : Go Z k cn sn M pc Ls (.int u :: .long x :: st) := by
  obtain ⟨p, l, e, R', s, m, args, below, meth, c, Q'⟩ := k
  obtain ⟨hx, hZ, hby, -⟩ := H
  subst hp
  intro T w
  have w' := w
  obtain ⟨locs, X, F, O⟩ := w
  obtain ⟨t, o, hs, r⟩ := g T w'
  exact ⟨t, o, XS.lushr X.here hx rfl (hb hby hd) rfl hs, r⟩
theorem s_i2l (H : Ok Z k R Q y b ml rt) {x : Int32} (hd : decode b pc = .ok (.i2l, 1)) (hp : pc + 1 = pc') (g : Go Z k cn sn M pc' Ls (.long (x.toInt64) :: st)) : Go Z k cn sn M pc Ls (.int x :: st) := by
  obtain ⟨p, l, e, R', s, m, args, below, meth, c, Q'⟩ := k
  obtain ⟨hx, hZ, hby, -⟩ := H
  subst hp
  intro T w
  have w' := w
  obtain ⟨locs, X, F, O⟩ := w
  obtain ⟨t, o, hs, r⟩ := g T w'
  exact ⟨t, o, XS.i2l X.here hx rfl (hb hby hd) rfl hs, r⟩
theorem s_l2i (H : Ok Z k R Q y b ml rt) {x : Int64} (hd : decode b pc = .ok (.l2i, 1)) (hp : pc + 1 = pc') (g : Go Z k cn sn M pc' Ls (.int (x.toInt32) :: st)) : Go Z k cn sn M pc Ls (.long x :: st) := by
  obtain ⟨p, l, e, R', s, m, args, below, meth, c, Q'⟩ := k
  obtain ⟨hx, hZ, hby, -⟩ := H
  subst hp
  intro T w
  have w' := w
  obtain ⟨locs, X, F, O⟩ := w
  obtain ⟨t, o, hs, r⟩ := g T w'
  exact ⟨t, o, XS.l2i X.here hx rfl (hb hby hd) rfl hs, r⟩
theorem s_i2b (H : Ok Z k R Q y b ml rt) {x : Int32} (hd : decode b pc = .ok (.i2b, 1)) (hp : pc + 1 = pc') (g : Go Z k cn sn M pc' Ls (.int (x.toInt8.toInt32) :: st)) : Go Z k cn sn M pc Ls (.int x :: st) := by
  obtain ⟨p, l, e, R', s, m, args, below, meth, c, Q'⟩ := k
  obtain ⟨hx, hZ, hby, -⟩ := H
  subst hp
  intro T w
  have w' := w
  obtain ⟨locs, X, F, O⟩ := w
  obtain ⟨t, o, hs, r⟩ := g T w'
  exact ⟨t, o, XS.i2b X.here hx rfl (hb hby hd) rfl hs, r⟩
theorem s_i2c (H : Ok Z k R Q y b ml rt) {x : Int32} (hd : decode b pc = .ok (.i2c, 1)) (hp : pc + 1 = pc') (g : Go Z k cn sn M pc' Ls (.int (x.toUInt32.toUInt16.toUInt32.toInt32) :: st)) : Go Z k cn sn M pc Ls (.int x :: st) := by
  obtain ⟨p, l, e, R', s, m, args, below, meth, c, Q'⟩ := k
  obtain ⟨hx, hZ, hby, -⟩ := H
  subst hp
  intro T w
  have w' := w
  obtain ⟨locs, X, F, O⟩ := w
  obtain ⟨t, o, hs, r⟩ := g T w'
  exact ⟨t, o, XS.i2c X.here hx rfl (hb hby hd) rfl hs, r⟩
theorem s_i2s (H : Ok Z k R Q y b ml rt) {x : Int32} (hd : decode b pc = .ok (.i2s, 1)) (hp : pc + 1 = pc') (g : Go Z k cn sn M pc' Ls (.int (x.toInt16.toInt32) :: st)) : Go Z k cn sn M pc Ls (.int x :: st) := by
  obtain ⟨p, l, e, R', s, m, args, below, meth, c, Q'⟩ := k
  obtain ⟨hx, hZ, hby, -⟩ := H
  subst hp
  intro T w
  have w' := w
  obtain ⟨locs, X, F, O⟩ := w
  obtain ⟨t, o, hs, r⟩ := g T w'
  exact ⟨t, o, XS.i2s X.here hx rfl (hb hby hd) rfl hs, r⟩
theorem s_lcmp (H : Ok Z k R Q y b ml rt) {x u : Int64} (hd : decode b pc = .ok (.lcmp, 1)) (hp : pc + 1 = pc') (g : Go Z k cn sn M pc' Ls (.int (lcmpW x u) :: st)) : Go Z k cn sn M pc Ls (.long u :: .long x :: st) := by
  obtain ⟨p, l, e, R', s, m, args, below, meth, c, Q'⟩ := k
  obtain ⟨hx, hZ, hby, -⟩ := H
  subst hp
  intro T w
  have w' := w
  obtain ⟨locs, X, F, O⟩ := w
  obtain ⟨t, o, hs, r⟩ := g T w'
  exact ⟨t, o, XS.lcmp X.here hx rfl (hb hby hd) rfl hs, r⟩
theorem s_dup (H : Ok Z k R Q y b ml rt) {v : Value} (hd : decode b pc = .ok (.dup, 1)) (hc : v.category = 1) (hp : pc + 1 = pc') (g : Go Z k cn sn M pc' Ls (v :: v :: st)) : Go Z k cn sn M pc Ls (v :: st) := by
  obtain ⟨p, l, e, R', s, m, args, below, meth, c, Q'⟩ := k
  obtain ⟨hx, hZ, hby, -⟩ := H
  subst hp
  intro T w
  have w' := w
  obtain ⟨locs, X, F, O⟩ := w
  obtain ⟨t, o, hs, r⟩ := g T w'
  exact ⟨t, o, XS.dup X.here hx rfl (hb hby hd) rfl hc hs, r⟩
theorem s_dupx1 (H : Ok Z k R Q y b ml rt) {v v' : Value} (hd : decode b pc = .ok (.dup_x1, 1)) (hc : v.category = 1) (hc' : v'.category = 1) (hp : pc + 1 = pc') (g : Go Z k cn sn M pc' Ls (v :: v' :: v :: st)) : Go Z k cn sn M pc Ls (v :: v' :: st) := by
  obtain ⟨p, l, e, R', s, m, args, below, meth, c, Q'⟩ := k
  obtain ⟨hx, hZ, hby, -⟩ := H
  subst hp
  intro T w
  have w' := w
  obtain ⟨locs, X, F, O⟩ := w
  obtain ⟨t, o, hs, r⟩ := g T w'
  exact ⟨t, o, XS.dupX1 X.here hx rfl (hb hby hd) rfl hc hc' hs, r⟩
theorem s_dup2 (H : Ok Z k R Q y b ml rt) {v v' : Value} (hd : decode b pc = .ok (.dup2, 1)) (hc : v.category = 1) (hc' : v'.category = 1) (hp : pc + 1 = pc') (g : Go Z k cn sn M pc' Ls (v :: v' :: v :: v' :: st)) : Go Z k cn sn M pc Ls (v :: v' :: st) := by
  obtain ⟨p, l, e, R', s, m, args, below, meth, c, Q'⟩ := k
  obtain ⟨hx, hZ, hby, -⟩ := H
  subst hp
  intro T w
  have w' := w
  obtain ⟨locs, X, F, O⟩ := w
  obtain ⟨t, o, hs, r⟩ := g T w'
  exact ⟨t, o, XT.dup2 X.here hx rfl (hb hby hd) rfl hc hc' hs, r⟩
theorem s_dup2l (H : Ok Z k R Q y b ml rt) {x : Int64} (hd : decode b pc = .ok (.dup2, 1)) (hp : pc + 1 = pc') (g : Go Z k cn sn M pc' Ls (.long x :: .long x :: st)) : Go Z k cn sn M pc Ls (.long x :: st) := by
  obtain ⟨p, l, e, R', s, m, args, below, meth, c, Q'⟩ := k
  obtain ⟨hx, hZ, hby, -⟩ := H
  subst hp
  intro T w
  have w' := w
  obtain ⟨locs, X, F, O⟩ := w
  obtain ⟨t, o, hs, r⟩ := g T w'
  exact ⟨t, o, XT.dup2L X.here hx rfl (hb hby hd) rfl hs, r⟩
theorem s_pop (H : Ok Z k R Q y b ml rt) {v : Value} (hd : decode b pc = .ok (.pop, 1)) (hc : v.category = 1) (hp : pc + 1 = pc') (g : Go Z k cn sn M pc' Ls (st)) : Go Z k cn sn M pc Ls (v :: st) := by
  obtain ⟨p, l, e, R', s, m, args, below, meth, c, Q'⟩ := k
  obtain ⟨hx, hZ, hby, -⟩ := H
  subst hp
  intro T w
  have w' := w
  obtain ⟨locs, X, F, O⟩ := w
  obtain ⟨t, o, hs, r⟩ := g T w'
  exact ⟨t, o, XS.pop X.here hx rfl (hb hby hd) rfl hc hs, r⟩
theorem s_iinc (H : Ok Z k R Q y b ml rt) {i : Nat} {cst : Int} {x u : Int32} {L' : Int32 → Array Slot} (hd : decode b pc = .ok (.iinc i cst, 3)) (hl0 : Ls[i]? = some (.val (.int x))) (hu : u = Int32.ofInt cst) (hl : ∀ z, storeLocals Ls i (.int z) = some (L' z)) (hp : pc + 3 = pc') (g : ∀ z, z = x + u → Go Z k cn sn M pc' (L' z) st) : Go Z k cn sn M pc Ls st := by
  obtain ⟨p, l, e, R', s, m, args, below, meth, c, Q'⟩ := k
  obtain ⟨hx, hZ, hby, -⟩ := H
  subst hp hu
  intro T w
  have w' := w
  obtain ⟨locs, X, F, O⟩ := w
  obtain ⟨t, o, hs, r⟩ := g _ rfl T w'
  exact ⟨t, o, XS.iinc X.here hx rfl (hb hby hd) hl0 (hl _) hs, r⟩
theorem s_goto (H : Ok Z k R Q y b ml rt) {o : Int} (hd : decode b pc = .ok (.goto o, 3)) (ho : (pc : Int) + o = pc') (g : Go Z k cn sn M pc' Ls st) : Go Z k cn sn M pc Ls st := by
  obtain ⟨p, l, e, R', s, m, args, below, meth, c, Q'⟩ := k
  obtain ⟨hx, hZ, hby, -⟩ := H
  intro T w
  have w' := w
  obtain ⟨locs, X, F, O⟩ := w
  obtain ⟨t, o, hs, r⟩ := g T w'
  exact ⟨t, o, XS.goto X.here hx rfl (pc0 := pc) rfl (hb hby hd) (by omega) (by omega) hs, r⟩
theorem s_if (H : Ok Z k R Q y b ml rt) {cd : ClassFile.Cond} {o : Int} {x : Int32} {py : Nat} {φ : Prop} (hd : decode b pc = .ok (.ifCond cd o, 3)) (hq : ifCond.holds cd x = true ↔ φ) (ho : (pc : Int) + o = py) (hp : pc + 3 = pc') (gy : φ → Go Z k cn sn M py Ls st) (gn : ¬ φ → Go Z k cn sn M pc' Ls st) : Go Z k cn sn M pc Ls (.int x :: st) := by
  obtain ⟨p, l, e, R', s, m, args, below, meth, c, Q'⟩ := k
  obtain ⟨hx, hZ, hby, -⟩ := H
  subst hp
  intro T w
  have w' := w
  obtain ⟨locs, X, F, O⟩ := w
  cases hh : ifCond.holds cd x with
  | true =>
    obtain ⟨t, o, hs, r⟩ := gy (hq.mp hh) T w'
    exact ⟨t, o, XS.ifYes X.here hx rfl (pc0 := pc) rfl (hb hby hd) rfl hh (by omega) (by omega) hs, r⟩
  | false =>
    obtain ⟨t, o, hs, r⟩ := gn (fun q => by rw [hq.mpr q] at hh; cases hh) T w'
    exact ⟨t, o, XS.ifNo X.here hx rfl (hb hby hd) rfl hh hs, r⟩
theorem s_icmp (H : Ok Z k R Q y b ml rt) {cd : ClassFile.Cond} {o : Int} {x u : Int32} {py : Nat} {φ : Prop} (hd : decode b pc = .ok (.if_icmp cd o, 3)) (hq : if_icmp.holds cd x u = true ↔ φ) (ho : (pc : Int) + o = py) (hp : pc + 3 = pc') (gy : φ → Go Z k cn sn M py Ls st) (gn : ¬ φ → Go Z k cn sn M pc' Ls st) : Go Z k cn sn M pc Ls (.int u :: .int x :: st) := by
  obtain ⟨p, l, e, R', s, m, args, below, meth, c, Q'⟩ := k
  obtain ⟨hx, hZ, hby, -⟩ := H
  subst hp
  intro T w
  have w' := w
  obtain ⟨locs, X, F, O⟩ := w
  cases hh : if_icmp.holds cd x u with
  | true =>
    obtain ⟨t, o, hs, r⟩ := gy (hq.mp hh) T w'
    exact ⟨t, o, XS.icmpYes X.here hx rfl (pc0 := pc) rfl (hb hby hd) rfl hh (by omega) (by omega) hs, r⟩
  | false =>
    obtain ⟨t, o, hs, r⟩ := gn (fun q => by rw [hq.mpr q] at hh; cases hh) T w'
    exact ⟨t, o, XS.icmpNo X.here hx rfl (hb hby hd) rfl hh hs, r⟩
theorem q_eq {x u : Int32} : if_icmp.holds .eq x u = true ↔ x = u := by simp [if_icmp.holds]
theorem z_eq {x : Int32} : ifCond.holds .eq x = true ↔ x = 0 := by rw [if0]; exact q_eq
theorem q_ne {x u : Int32} : if_icmp.holds .ne x u = true ↔ ¬ x = u := by simp [if_icmp.holds]
theorem z_ne {x : Int32} : ifCond.holds .ne x = true ↔ ¬ x = 0 := by rw [if0]; exact q_ne
theorem q_lt {x u : Int32} : if_icmp.holds .lt x u = true ↔ x < u := by simp [if_icmp.holds]
theorem z_lt {x : Int32} : ifCond.holds .lt x = true ↔ x < 0 := by rw [if0]; exact q_lt
theorem q_ge {x u : Int32} : if_icmp.holds .ge x u = true ↔ u ≤ x := by simp [if_icmp.holds]
theorem z_ge {x : Int32} : ifCond.holds .ge x = true ↔ 0 ≤ x := by rw [if0]; exact q_ge
theorem q_gt {x u : Int32} : if_icmp.holds .gt x u = true ↔ u < x := by simp [if_icmp.holds]
theorem z_gt {x : Int32} : ifCond.holds .gt x = true ↔ 0 < x := by rw [if0]; exact q_gt
theorem q_le {x u : Int32} : if_icmp.holds .le x u = true ↔ x ≤ u := by simp [if_icmp.holds]
theorem z_le {x : Int32} : ifCond.holds .le x = true ↔ x ≤ 0 := by rw [if0]; exact q_le
theorem l_eq {x u : Int64} : ifCond.holds .eq (lcmpW x u) = true ↔ x = u := z_eq.trans (lw_eq x u)
theorem l_ne {x u : Int64} : ifCond.holds .ne (lcmpW x u) = true ↔ ¬ x = u := z_ne.trans (not_congr (lw_eq x u))
theorem l_lt {x u : Int64} : ifCond.holds .lt (lcmpW x u) = true ↔ x < u := z_lt.trans (lw_lt x u)
theorem l_gt {x u : Int64} : ifCond.holds .gt (lcmpW x u) = true ↔ u < x := z_gt.trans (lw_gt x u)
theorem l_ge {x u : Int64} : ifCond.holds .ge (lcmpW x u) = true ↔ u ≤ x := z_ge.trans (by rw [lcW]; exact lc_ge x u)
theorem l_le {x u : Int64} : ifCond.holds .le (lcmpW x u) = true ↔ x ≤ u := z_le.trans (by rw [lcW]; exact lc_le x u)
theorem s_ifnull (H : Ok Z k R Q y b ml rt) {o : Int} {a : Addr} (hd : decode b pc = .ok (.ifnull o, 3)) (hp : pc + 3 = pc') (g : Go Z k cn sn M pc' Ls st) : Go Z k cn sn M pc Ls (.ref a :: st) := by
  obtain ⟨p, l, e, R', s, m, args, below, meth, c, Q'⟩ := k
  obtain ⟨hx, hZ, hby, -⟩ := H
  subst hp
  intro T w
  have w' := w
  obtain ⟨locs, X, F, O⟩ := w
  obtain ⟨t, o, hs, r⟩ := g T w'
  exact ⟨t, o, XS.ifnullNo X.here hx rfl (hb hby hd) rfl hs, r⟩
theorem s_acmpne (H : Ok Z k R Q y b ml rt) {o : Int} {a a' : Addr} {py : Nat} (hd : decode b pc = .ok (.if_acmp .ne o, 3)) (hne : a ≠ a') (ho : (pc : Int) + o = py) (g : Go Z k cn sn M py Ls st) : Go Z k cn sn M pc Ls (.ref a' :: .ref a :: st) := by
  obtain ⟨p, l, e, R', s, m, args, below, meth, c, Q'⟩ := k
  obtain ⟨hx, hZ, hby, -⟩ := H
  intro T w
  have w' := w
  obtain ⟨locs, X, F, O⟩ := w
  obtain ⟨t, o, hs, r⟩ := g T w'
  exact ⟨t, o, XS.acmpYes X.here hx rfl (pc0 := pc) rfl (hb hby hd) rfl (by simp [if_acmp.holds, hne]) (by omega) (by omega) hs, r⟩
theorem s_acmpeq (H : Ok Z k R Q y b ml rt) {o : Int} {a a' : Addr} (hd : decode b pc = .ok (.if_acmp .eq o, 3)) (hne : a ≠ a') (hp : pc + 3 = pc') (g : Go Z k cn sn M pc' Ls st) : Go Z k cn sn M pc Ls (.ref a' :: .ref a :: st) := by
  obtain ⟨p, l, e, R', s, m, args, below, meth, c, Q'⟩ := k
  obtain ⟨hx, hZ, hby, -⟩ := H
  subst hp
  intro T w
  have w' := w
  obtain ⟨locs, X, F, O⟩ := w
  obtain ⟨t, o, hs, r⟩ := g T w'
  exact ⟨t, o, XS.acmpNo X.here hx rfl (hb hby hd) rfl (by simp [if_acmp.holds, hne]) hs, r⟩
theorem s_ldc2 (H : Ok Z k R Q y b ml rt) {i : Nat} {z : Int64} (hd : decode b pc = .ok (.ldc2_w i, 3)) (w1 : Jvm.Cond.constantLong y.cls i z ∈ tables_1) (hp : pc + 3 = pc') (g : Go Z k cn sn M pc' Ls (.long z :: st)) : Go Z k cn sn M pc Ls st := by
  obtain ⟨p, l, e, R', s, m, args, below, meth, c, Q'⟩ := k
  obtain ⟨hx, hZ, hby, -, hown, -, -, -, ⟨a0, hw⟩, -⟩ := H
  subst hp
  intro T w
  have w' := w
  obtain ⟨locs, X, F, O⟩ := w
  obtain ⟨t, o, hs, r⟩ := g T w'
  exact ⟨t, o, X.ldc2Long hx hown (mvT hZ (hw _ w1)) (g := mkF m pc Ls st) rfl (hb hby hd) _ hs, r⟩
theorem s_ldc (H : Ok Z k R Q y b ml rt) {i : Nat} {z : Int32} (hd : decode b pc = .ok (.ldc i, 2)) (w1 : Jvm.Cond.constant y.cls i z ∈ tables_1) (hp : pc + 2 = pc') (g : Go Z k cn sn M pc' Ls (.int z :: st)) : Go Z k cn sn M pc Ls st := by
  obtain ⟨p, l, e, R', s, m, args, below, meth, c, Q'⟩ := k
  obtain ⟨hx, hZ, hby, -, hown, -, -, -, ⟨a0, hw⟩, -⟩ := H
  subst hp
  intro T w
  have w' := w
  obtain ⟨locs, X, F, O⟩ := w
  obtain ⟨t, o, hs, r⟩ := g T w'
  exact ⟨t, o, X.ldcInt hx hown (mvT hZ (hw _ w1)) (g := mkF m pc Ls st) rfl (hb hby hd) _ hs, r⟩
/-! the heap's steps -/
theorem nb_of {n : Nat} {j : Int32} (h0 : ¬ j < 0) (hl : j.toNatClampNeg < n) : ¬ (j < 0 ∨ n ≤ j.toNatClampNeg) := fun q => q.elim h0 fun r => Nat.not_lt.mpr r hl
theorem s_alenI (H : Ok Z k R Q y b ml rt) {i : Nat} {a : Addr} {ty : FieldType} {vs : List Int32} {z : Int32} (hd : decode b pc = .ok (.arraylength, 1)) (hi : M[i]? = some (a, ArI Z ty vs)) (hz : z = vs.length.toInt32) (hp : pc + 1 = pc') (g : Go Z k cn sn M pc' Ls (.int z :: st)) : Go Z k cn sn M pc Ls (.ref a :: st) := by
  obtain ⟨p, l, e, R', s, m, args, below, meth, c, Q'⟩ := k
  obtain ⟨hx, hZ, hby, -⟩ := H
  subst hp hz
  intro T w
  have w' := w
  obtain ⟨locs, X, F, O⟩ := w
  obtain ⟨-, cl, q1, q2⟩ := O.2.1 i _ hi
  obtain ⟨t, o, hs, r⟩ := g T w'
  exact ⟨t, o, X.arraylength hx q1 (State.isArrayOf_alike hZ.alike q2.1) (g := mkF m pc Ls (.ref a :: st)) rfl rfl (hb hby hd) _ (by rw [q2.size]; exact hs), r⟩
theorem s_alenL (H : Ok Z k R Q y b ml rt) {i : Nat} {a : Addr} {vs : List Int64} {z : Int32} (hd : decode b pc = .ok (.arraylength, 1)) (hi : M[i]? = some (a, ArL Z vs)) (hz : z = vs.length.toInt32) (hp : pc + 1 = pc') (g : Go Z k cn sn M pc' Ls (.int z :: st)) : Go Z k cn sn M pc Ls (.ref a :: st) := by
  obtain ⟨p, l, e, R', s, m, args, below, meth, c, Q'⟩ := k
  obtain ⟨hx, hZ, hby, -⟩ := H
  subst hp hz
  intro T w
  have w' := w
  obtain ⟨locs, X, F, O⟩ := w
  obtain ⟨-, cl, q1, q2⟩ := O.2.1 i _ hi
  obtain ⟨t, o, hs, r⟩ := g T w'
  exact ⟨t, o, X.arraylength hx q1 (State.isArrayOf_alike hZ.alike q2.1) (g := mkF m pc Ls (.ref a :: st)) rfl rfl (hb hby hd) _ (by rw [q2.size]; exact hs), r⟩
theorem s_iaload (H : Ok Z k R Q y b ml rt) {i : Nat} {a : Addr} {vs : List Int32} {j : Int32} {x : Int32} (hd : decode b pc = .ok (.iaload, 1)) (hi : M[i]? = some (a, ArI Z .int vs)) (h0 : ¬ j < 0) {jn : Nat} (hjn : j.toNatClampNeg = jn) (hv : vs[jn]? = some x) (hp : pc + 1 = pc') (g : Go Z k cn sn M pc' Ls (.int x :: st)) : Go Z k cn sn M pc Ls (.int j :: .ref a :: st) := by
  obtain ⟨p, l, e, R', s, m, args, below, meth, c, Q'⟩ := k
  obtain ⟨hx, hZ, hby, -⟩ := H
  subst hp hjn
  intro T w
  have w' := w
  obtain ⟨locs, X, F, O⟩ := w
  obtain ⟨-, cl, q1, q2⟩ := O.2.1 i _ hi
  obtain ⟨t, o, hs, r⟩ := g T w'
  have hlt : j.toNatClampNeg < vs.length := (List.getElem?_eq_some_iff.mp hv).1
  exact ⟨t, o, X.iaload hx (v := .int x) q1 (State.isArrayOf_alike hZ.alike q2.1) q2.2.1 (nb_of h0 (by rw [q2.size]; exact hlt)) (by rw [q2.2.2.1]; simp [hv]) (g := mkF m pc Ls (.int j :: .ref a :: st)) rfl rfl (hb hby hd) _ hs, r⟩
theorem s_baload (H : Ok Z k R Q y b ml rt) {i : Nat} {a : Addr} {vs : List Int32} {j : Int32} {x : Int32} (hd : decode b pc = .ok (.baload, 1)) (hi : M[i]? = some (a, ArI Z .byte vs)) (h0 : ¬ j < 0) {jn : Nat} (hjn : j.toNatClampNeg = jn) (hv : vs[jn]? = some x) (hp : pc + 1 = pc') (g : Go Z k cn sn M pc' Ls (.int x :: st)) : Go Z k cn sn M pc Ls (.int j :: .ref a :: st) := by
  obtain ⟨p, l, e, R', s, m, args, below, meth, c, Q'⟩ := k
  obtain ⟨hx, hZ, hby, -⟩ := H
  subst hp hjn
  intro T w
  have w' := w
  obtain ⟨locs, X, F, O⟩ := w
  obtain ⟨-, cl, q1, q2⟩ := O.2.1 i _ hi
  obtain ⟨t, o, hs, r⟩ := g T w'
  have hlt : j.toNatClampNeg < vs.length := (List.getElem?_eq_some_iff.mp hv).1
  exact ⟨t, o, X.baloadBytes hx (v := .int x) q1 (State.isArrayOf_alike hZ.alike q2.1) q2.2.1 (nb_of h0 (by rw [q2.size]; exact hlt)) (by rw [q2.2.2.1]; simp [hv]) (g := mkF m pc Ls (.int j :: .ref a :: st)) rfl rfl (hb hby hd) _ hs, r⟩
theorem s_zaload (H : Ok Z k R Q y b ml rt) {i : Nat} {a : Addr} {vs : List Int32} {j : Int32} {x : Int32} (hd : decode b pc = .ok (.baload, 1)) (hi : M[i]? = some (a, ArI Z .boolean vs)) (h0 : ¬ j < 0) {jn : Nat} (hjn : j.toNatClampNeg = jn) (hv : vs[jn]? = some x) (hp : pc + 1 = pc') (g : Go Z k cn sn M pc' Ls (.int x :: st)) : Go Z k cn sn M pc Ls (.int j :: .ref a :: st) := by
  obtain ⟨p, l, e, R', s, m, args, below, meth, c, Q'⟩ := k
  obtain ⟨hx, hZ, hby, -⟩ := H
  subst hp hjn
  intro T w
  have w' := w
  obtain ⟨locs, X, F, O⟩ := w
  obtain ⟨-, cl, q1, q2⟩ := O.2.1 i _ hi
  obtain ⟨t, o, hs, r⟩ := g T w'
  have hlt : j.toNatClampNeg < vs.length := (List.getElem?_eq_some_iff.mp hv).1
  exact ⟨t, o, X.baloadBooleans hx (v := .int x) q1 (State.isArrayOf_alike hZ.alike q2.1) q2.2.1 (nb_of h0 (by rw [q2.size]; exact hlt)) (by rw [q2.2.2.1]; simp [hv]) (g := mkF m pc Ls (.int j :: .ref a :: st)) rfl rfl (hb hby hd) _ hs, r⟩
theorem s_laload (H : Ok Z k R Q y b ml rt) {i : Nat} {a : Addr} {vs : List Int64} {j : Int32} {x : Int64} (hd : decode b pc = .ok (.laload, 1)) (hi : M[i]? = some (a, ArL Z vs)) (h0 : ¬ j < 0) {jn : Nat} (hjn : j.toNatClampNeg = jn) (hv : vs[jn]? = some x) (hp : pc + 1 = pc') (g : Go Z k cn sn M pc' Ls (.long x :: st)) : Go Z k cn sn M pc Ls (.int j :: .ref a :: st) := by
  obtain ⟨p, l, e, R', s, m, args, below, meth, c, Q'⟩ := k
  obtain ⟨hx, hZ, hby, -⟩ := H
  subst hp hjn
  intro T w
  have w' := w
  obtain ⟨locs, X, F, O⟩ := w
  obtain ⟨-, cl, q1, q2⟩ := O.2.1 i _ hi
  obtain ⟨t, o, hs, r⟩ := g T w'
  have hlt : j.toNatClampNeg < vs.length := (List.getElem?_eq_some_iff.mp hv).1
  exact ⟨t, o, X.laload hx (v := .long x) q1 (State.isArrayOf_alike hZ.alike q2.1) q2.2.1 (nb_of h0 (by rw [q2.size]; exact hlt)) (by rw [q2.2.2.1]; simp [hv]) (g := mkF m pc Ls (.int j :: .ref a :: st)) rfl rfl (hb hby hd) _ hs, r⟩
theorem s_iastore (H : Ok Z k R Q y b ml rt) {i : Nat} {a : Addr} {vs : List Int32} {j : Int32} {x : Int32} (hd : decode b pc = .ok (.iastore, 1)) (hi : M[i]? = some (a, ArI Z .int vs)) (h0 : ¬ j < 0) {jn : Nat} (hjn : j.toNatClampNeg = jn) (hj : jn < vs.length) (hp : pc + 1 = pc') (g : Go Z k cn sn (M.set i (a, ArI Z .int (vs.set jn x))) pc' Ls st) : Go Z k cn sn M pc Ls (.int x :: .int j :: .ref a :: st) := by
  obtain ⟨p, l, e, R', s, m, args, below, meth, c, Q'⟩ := k
  obtain ⟨hx, hZ, hby, -⟩ := H
  subst hp hjn
  intro T w
  obtain ⟨locs, X, F, O⟩ := w
  obtain ⟨q0, cl, q1, q2⟩ := O.2.1 i _ hi
  obtain ⟨T', h', X', e', W, sg⟩ := stI X hx hZ rfl (q2.arr q1) (j := j) (nb_of h0 (by rw [q2.size]; exact hj)) (g := mkF m pc Ls (.int x :: .int j :: .ref a :: st)) rfl rfl (hb hby hd)
  obtain ⟨t, o, hs, r⟩ := g T' ⟨_, X', Fr.snoc X' F q0, e' ▸ O.upd hi W fun c _ hc => hc.put _ rfl⟩
  exact ⟨t, o, sg _ hs, r⟩
theorem s_bastore (H : Ok Z k R Q y b ml rt) {i : Nat} {a : Addr} {vs : List Int32} {j : Int32} {x0 x : Int32} (hd : decode b pc = .ok (.bastore, 1)) (hi : M[i]? = some (a, ArI Z .byte vs)) (h0 : ¬ j < 0) {jn : Nat} (hjn : j.toNatClampNeg = jn) (hj : jn < vs.length) (hn : x = nar .byte x0) (hp : pc + 1 = pc') (g : Go Z k cn sn (M.set i (a, ArI Z .byte (vs.set jn x))) pc' Ls st) : Go Z k cn sn M pc Ls (.int x0 :: .int j :: .ref a :: st) := by
  obtain ⟨p, l, e, R', s, m, args, below, meth, c, Q'⟩ := k
  obtain ⟨hx, hZ, hby, -⟩ := H
  subst hp hjn hn
  intro T w
  obtain ⟨locs, X, F, O⟩ := w
  obtain ⟨q0, cl, q1, q2⟩ := O.2.1 i _ hi
  obtain ⟨T', h', X', e', W, sg⟩ := stB X hx hZ rfl (q2.arr q1) (j := j) (nb_of h0 (by rw [q2.size]; exact hj)) (g := mkF m pc Ls (.int x0 :: .int j :: .ref a :: st)) rfl rfl (hb hby hd)
  obtain ⟨t, o, hs, r⟩ := g T' ⟨_, X', Fr.snoc X' F q0, e' ▸ O.upd hi W fun c _ hc => hc.put _ (fits_nar_byte _)⟩
  exact ⟨t, o, sg _ hs, r⟩
theorem s_zastore (H : Ok Z k R Q y b ml rt) {i : Nat} {a : Addr} {vs : List Int32} {j : Int32} {x0 x : Int32} (hd : decode b pc = .ok (.bastore, 1)) (hi : M[i]? = some (a, ArI Z .boolean vs)) (h0 : ¬ j < 0) {jn : Nat} (hjn : j.toNatClampNeg = jn) (hj : jn < vs.length) (hn : x = nar .boolean x0) (hp : pc + 1 = pc') (g : Go Z k cn sn (M.set i (a, ArI Z .boolean (vs.set jn x))) pc' Ls st) : Go Z k cn sn M pc Ls (.int x0 :: .int j :: .ref a :: st) := by
  obtain ⟨p, l, e, R', s, m, args, below, meth, c, Q'⟩ := k
  obtain ⟨hx, hZ, hby, -⟩ := H
  subst hp hjn hn
  intro T w
  obtain ⟨locs, X, F, O⟩ := w
  obtain ⟨q0, cl, q1, q2⟩ := O.2.1 i _ hi
  obtain ⟨T', h', X', e', W, sg⟩ := stZ X hx hZ rfl (q2.arr q1) (j := j) (nb_of h0 (by rw [q2.size]; exact hj)) (g := mkF m pc Ls (.int x0 :: .int j :: .ref a :: st)) rfl rfl (hb hby hd)
  obtain ⟨t, o, hs, r⟩ := g T' ⟨_, X', Fr.snoc X' F q0, e' ▸ O.upd hi W fun c _ hc => hc.put _ (fits_nar_bool _)⟩
  exact ⟨t, o, sg _ hs, r⟩
theorem s_lastore (H : Ok Z k R Q y b ml rt) {i : Nat} {a : Addr} {vs : List Int64} {j : Int32} {x : Int64} (hd : decode b pc = .ok (.lastore, 1)) (hi : M[i]? = some (a, ArL Z vs)) (h0 : ¬ j < 0) {jn : Nat} (hjn : j.toNatClampNeg = jn) (hj : jn < vs.length) (hp : pc + 1 = pc') (g : Go Z k cn sn (M.set i (a, ArL Z (vs.set jn x))) pc' Ls st) : Go Z k cn sn M pc Ls (.long x :: .int j :: .ref a :: st) := by
  obtain ⟨p, l, e, R', s, m, args, below, meth, c, Q'⟩ := k
  obtain ⟨hx, hZ, hby, -⟩ := H
  subst hp hjn
  intro T w
  obtain ⟨locs, X, F, O⟩ := w
  obtain ⟨q0, cl, q1, q2⟩ := O.2.1 i _ hi
  obtain ⟨T', h', X', e', W, sg⟩ := stJ X hx hZ rfl (q2.arr q1) (j := j) (nb_of h0 (by rw [q2.size]; exact hj)) (g := mkF m pc Ls (.long x :: .int j :: .ref a :: st)) rfl rfl (hb hby hd)
  obtain ⟨t, o, hs, r⟩ := g T' ⟨_, X', Fr.snoc X' F q0, e' ▸ O.upd hi W fun c _ hc => hc.put _⟩
  exact ⟨t, o, sg _ hs, r⟩
theorem s_getf (H : Ok Z k R Q y b ml rt) {i j idx : Nat} {a : Addr} {C O n d : String} {fs : List Fd} {v : Value} (hd : decode b pc = .ok (.getfield idx, 3)) (w1 : Jvm.Cond.fieldLink y.cls idx O n d ∈ tables_1) (hi : M[i]? = some (a, Obj Z C fs)) (hj : fs[j]? = some (O, n, d, v)) (hp : pc + 3 = pc') (g : Go Z k cn sn M pc' Ls (v :: st)) : Go Z k cn sn M pc Ls (.ref a :: st) := by
  obtain ⟨p, l, e, R', s, m, args, below, meth, c, Q'⟩ := k
  obtain ⟨hx, hZ, hby, -, hown, -, -, -, ⟨a0, hw⟩, -⟩ := H
  subst hp
  intro T w
  obtain ⟨locs, X, F, OO⟩ := w
  obtain ⟨-, cl, q1, q2⟩ := OO.2.1 i _ hi
  obtain ⟨T', X', e', sg⟩ := getF X hx hZ hown (host := "") (Or.inl (hw _ w1)) Via.refl rfl ((q2.1 _ _ q1).2 j _ hj) (g := mkF m pc Ls (.ref a :: st)) rfl rfl (hb hby hd)
  obtain ⟨t, o, hs, r⟩ := g T' ⟨_, X', F, e' ▸ OO⟩
  exact ⟨t, o, sg _ hs, r⟩
theorem s_getfN (H : Ok Z k R Q y b ml rt) {i j idx : Nat} {a : Addr} {C O n d host : String} {fs : List Fd} {v : Value} (hd : decode b pc = .ok (.getfield idx, 3)) (w1 : Jvm.Cond.fieldLinkNest y.cls idx O n d host ∈ tables_1) (hi : M[i]? = some (a, Obj Z C fs)) (hj : fs[j]? = some (O, n, d, v)) (hp : pc + 3 = pc') (g : Go Z k cn sn M pc' Ls (v :: st)) : Go Z k cn sn M pc Ls (.ref a :: st) := by
  obtain ⟨p, l, e, R', s, m, args, below, meth, c, Q'⟩ := k
  obtain ⟨hx, hZ, hby, -, hown, -, -, -, ⟨a0, hw⟩, -⟩ := H
  subst hp
  intro T w
  obtain ⟨locs, X, F, OO⟩ := w
  obtain ⟨-, cl, q1, q2⟩ := OO.2.1 i _ hi
  obtain ⟨T', X', e', sg⟩ := getF X hx hZ hown (host := host) (Or.inr (hw _ w1)) Via.refl rfl ((q2.1 _ _ q1).2 j _ hj) (g := mkF m pc Ls (.ref a :: st)) rfl rfl (hb hby hd)
  obtain ⟨t, o, hs, r⟩ := g T' ⟨_, X', F, e' ▸ OO⟩
  exact ⟨t, o, sg _ hs, r⟩
theorem s_putf (H : Ok Z k R Q y b ml rt) {i j idx kk : Nat} {a : Addr} {C O n d : String} {fs : List Fd} {v v0 : Value} {ty : FieldType} (hd : decode b pc = .ok (.putfield idx, 3)) (w1 : Jvm.Cond.fieldLink y.cls idx O n d ∈ tables_1) (w2 : Jvm.Cond.lays C O n d ∈ tables_1 ∨ (Jvm.Cond.laysFinal C O n d ∈ tables_1 ∧ y.cls = O ∧ y.name = "<init>")) (w3 : Jvm.Cond.instantiable C kk ∈ tables_1)
    (hty : parseFieldDescriptor d = some ty) (hn : narrow ty v = v) (hf : fits ty v = true) (hi : M[i]? = some (a, Obj Z C fs)) (hj : fs[j]? = some (O, n, d, v0)) (hp : pc + 3 = pc') (g : Go Z k cn sn (M.set i (a, Obj Z C (fs.set j (O, n, d, v)))) pc' Ls st) : Go Z k cn sn M pc Ls (v :: .ref a :: st) := by
  obtain ⟨p, l, e, R', s, m, args, below, meth, c, Q'⟩ := k
  obtain ⟨hx, hZ, hby, -, hown, hnm, -, -, ⟨a0, hw⟩, -⟩ := H
  subst hp
  intro T w
  obtain ⟨locs, X, F, OO⟩ := w
  obtain ⟨q0, cl, q1, q2⟩ := OO.2.1 i _ hi
  obtain ⟨T', h', X', e', W, sg⟩ := putF X hx hZ hown (host := "") (Or.inl (hw _ w1)) Via.refl rfl ((q2.1 _ _ q1).2 j _ hj) (q2.1 _ _ q1).1 (w2.imp (fun q => hw _ q) fun q => ⟨hw _ q.1, q.2.1, hnm.trans q.2.2⟩) (hw _ w3) hty hn hf (g := mkF m pc Ls (v :: .ref a :: st)) rfl rfl (hb hby hd)
  obtain ⟨t, o, hs, r⟩ := g T' ⟨_, X', Fr.snoc X' F q0, e' ▸ OO.upd hi W fun c hc1 hc => hc.put hj hc1 W⟩
  exact ⟨t, o, sg _ hs, r⟩
def Dflt (C : String) (f : Fd) : Prop := (Jvm.Cond.lays C f.1 f.2.1 f.2.2.1 ∈ tables_1 ∨ Jvm.Cond.laysFinal C f.1 f.2.1 f.2.2.1 ∈ tables_1) ∧ ∃ ty, parseFieldDescriptor f.2.2.1 = some ty ∧ f.2.2.2 = defaultValue ty
theorem s_new (H : Ok Z k R Q y b ml rt) {idx n cn' sn' : Nat} {C : String} (fs : List Fd) (hd : decode b pc = .ok (.new idx, 3)) (w1 : Jvm.Cond.classLink y.cls idx C ∈ tables_1) (w2 : Jvm.Cond.instantiable C n ∈ tables_1) (w3 : Jvm.Cond.initialized C ∈ tables_1) (hD : ∀ f ∈ fs, Dflt C f) (hN : (fs.map fun f => f.2.1).Nodup) (hc : cn + 1 = cn') (hs : sn + n = sn') (hc' : cn' ≤ R.cells) (hs' : sn' ≤ R.slots) (hp : pc + 3 = pc')
    (g : ∀ a, Go Z k cn' sn' ((a, Obj Z C fs) :: M) pc' Ls (.ref a :: st)) : Go Z k cn sn M pc Ls st := by
  obtain ⟨p, l, e, R', s, m, args, below, meth, c, Q'⟩ := k
  obtain ⟨hx, hZ, hby, -, hown, hnm, -, -, ⟨a0, hw⟩, rfl, -⟩ := H
  subst hp hc hs
  intro T w
  obtain ⟨locs, X, F, OO⟩ := w
  obtain ⟨T', h', X', e', E, A, D, ⟨cell, hcell, -⟩, sg⟩ := newO X hx hZ hown (hw _ w1) (hw _ w2) (hw _ w3) rfl (g := mkF m pc Ls st) rfl (hb hby hd) hc' hs'
  have hL : ∀ f ∈ fs, Laid Z a0 C f.1 f.2.1 f.2.2.1 := fun f hf => (hD f hf).1.imp (fun q => hw _ q) fun q => hw _ q
  have hB : Obj Z C fs cell := by
    refine ⟨fun h2 a2 hc2 => ⟨exa_at_cell A hcell hc2, fun i f hf => ?_⟩, fun i j f f' hf hf' es => ?_⟩
    · have hm := List.mem_of_getElem? hf
      obtain ⟨-, ty, h1, h2⟩ := hD f hm
      rw [h2]
      exact fld_at_cell (D (hL f hm) h1) hcell hc2
    · obtain ⟨-, ty, h1, -⟩ := hD f (List.mem_of_getElem? hf)
      obtain ⟨-, ty', h1', -⟩ := hD f' (List.mem_of_getElem? hf')
      have hne : f.2.1 = f'.2.1 := Classical.byContradiction fun q => slot_ne (hL f (List.mem_of_getElem? hf)) (hL f' (List.mem_of_getElem? hf')) q h1 h1' es
      rw [List.nodup_iff_pairwise_ne, List.pairwise_iff_getElem] at hN
      obtain ⟨hi, rfl⟩ := List.getElem?_eq_some_iff.mp hf
      obtain ⟨hj, rfl⟩ := List.getElem?_eq_some_iff.mp hf'
      rcases Nat.lt_trichotomy i j with lt | rfl | lt
      · exact (hN i j (by simpa using hi) (by simpa using hj) lt (by simpa using hne)).elim
      · rfl
      · exact (hN j i (by simpa using hj) (by simpa using hi) lt (by simpa using hne.symm)).elim
  obtain ⟨t, o, hs, r⟩ := g _ T' ⟨_, X', F, e' ▸ OO.new E hcell hB⟩
  exact ⟨t, o, sg _ hs, r⟩
theorem s_newarr_int (H : Ok Z k R Q y b ml rt) {cn' sn' cap : Nat} {n : Int32} (hd : decode b pc = .ok (.newarray .int, 2)) (w1 : Jvm.Cond.arrayClass .int ∈ tables_1) (hn : ¬ n < 0) (hcap : n.toNatClampNeg ≤ cap) (hb8 : cap * 8 ≤ 536870912) (hc : cn + 1 = cn') (hs : sn + cap = sn') (hc' : cn' ≤ R.cells) (hs' : sn' ≤ R.slots) (hp : pc + 2 = pc')
    (g : ∀ a, Go Z k cn' sn' ((a, ArI Z .int (List.replicate n.toNatClampNeg 0)) :: M) pc' Ls (.ref a :: st)) : Go Z k cn sn M pc Ls (.int n :: st) := by
  obtain ⟨p, l, e, R', s, m, args, below, meth, c, Q'⟩ := k
  obtain ⟨hx, hZ, hby, -, hown, hnm, -, -, ⟨a0, hw⟩, rfl, -⟩ := H
  subst hp hc hs
  intro T w
  obtain ⟨locs, X, F, OO⟩ := w
  obtain ⟨T', h', cA, X', e', E, A, sg⟩ := newP X hx hZ (aty := .int) (hw _ w1) rfl (g := mkF m pc Ls (.int n :: st)) rfl (hb hby hd) rfl hn hcap hb8 hc' hs'
  have hB : ArI Z .int (List.replicate n.toNatClampNeg 0) (newA cA .int n) := ⟨A.2.1, A.2.2, by simp [newA, defaultValue], by simp; omega, fun x hx => by rw [List.eq_of_mem_replicate hx]; rfl⟩
  obtain ⟨t, o, hs, r⟩ := g _ T' ⟨_, X', F, e' ▸ OO.new E A.1 hB⟩
  exact ⟨t, o, sg _ hs, r⟩
theorem s_newarr_byte (H : Ok Z k R Q y b ml rt) {cn' sn' cap : Nat} {n : Int32} (hd : decode b pc = .ok (.newarray .byte, 2)) (w1 : Jvm.Cond.arrayClass .byte ∈ tables_1) (hn : ¬ n < 0) (hcap : n.toNatClampNeg ≤ cap) (hb8 : cap * 8 ≤ 536870912) (hc : cn + 1 = cn') (hs : sn + cap = sn') (hc' : cn' ≤ R.cells) (hs' : sn' ≤ R.slots) (hp : pc + 2 = pc')
    (g : ∀ a, Go Z k cn' sn' ((a, ArI Z .byte (List.replicate n.toNatClampNeg 0)) :: M) pc' Ls (.ref a :: st)) : Go Z k cn sn M pc Ls (.int n :: st) := by
  obtain ⟨p, l, e, R', s, m, args, below, meth, c, Q'⟩ := k
  obtain ⟨hx, hZ, hby, -, hown, hnm, -, -, ⟨a0, hw⟩, rfl, -⟩ := H
  subst hp hc hs
  intro T w
  obtain ⟨locs, X, F, OO⟩ := w
  obtain ⟨T', h', cA, X', e', E, A, sg⟩ := newP X hx hZ (aty := .byte) (hw _ w1) rfl (g := mkF m pc Ls (.int n :: st)) rfl (hb hby hd) rfl hn hcap hb8 hc' hs'
  have hB : ArI Z .byte (List.replicate n.toNatClampNeg 0) (newA cA .byte n) := ⟨A.2.1, A.2.2, by simp [newA, defaultValue], by simp; omega, fun x hx => by rw [List.eq_of_mem_replicate hx]; rfl⟩
  obtain ⟨t, o, hs, r⟩ := g _ T' ⟨_, X', F, e' ▸ OO.new E A.1 hB⟩
  exact ⟨t, o, sg _ hs, r⟩
theorem s_newarr_bool (H : Ok Z k R Q y b ml rt) {cn' sn' cap : Nat} {n : Int32} (hd : decode b pc = .ok (.newarray .boolean, 2)) (w1 : Jvm.Cond.arrayClass .boolean ∈ tables_1) (hn : ¬ n < 0) (hcap : n.toNatClampNeg ≤ cap) (hb8 : cap * 8 ≤ 536870912) (hc : cn + 1 = cn') (hs : sn + cap = sn') (hc' : cn' ≤ R.cells) (hs' : sn' ≤ R.slots) (hp : pc + 2 = pc')
    (g : ∀ a, Go Z k cn' sn' ((a, ArI Z .boolean (List.replicate n.toNatClampNeg 0)) :: M) pc' Ls (.ref a :: st)) : Go Z k cn sn M pc Ls (.int n :: st) := by
  obtain ⟨p, l, e, R', s, m, args, below, meth, c, Q'⟩ := k
  obtain ⟨hx, hZ, hby, -, hown, hnm, -, -, ⟨a0, hw⟩, rfl, -⟩ := H
  subst hp hc hs
  intro T w
  obtain ⟨locs, X, F, OO⟩ := w
  obtain ⟨T', h', cA, X', e', E, A, sg⟩ := newP X hx hZ (aty := .boolean) (hw _ w1) rfl (g := mkF m pc Ls (.int n :: st)) rfl (hb hby hd) rfl hn hcap hb8 hc' hs'
  have hB : ArI Z .boolean (List.replicate n.toNatClampNeg 0) (newA cA .boolean n) := ⟨A.2.1, A.2.2, by simp [newA, defaultValue], by simp; omega, fun x hx => by rw [List.eq_of_mem_replicate hx]; rfl⟩
  obtain ⟨t, o, hs, r⟩ := g _ T' ⟨_, X', F, e' ▸ OO.new E A.1 hB⟩
  exact ⟨t, o, sg _ hs, r⟩
theorem s_newarr_long (H : Ok Z k R Q y b ml rt) {cn' sn' cap : Nat} {n : Int32} (hd : decode b pc = .ok (.newarray .long, 2)) (w1 : Jvm.Cond.arrayClass .long ∈ tables_1) (hn : ¬ n < 0) (hcap : n.toNatClampNeg ≤ cap) (hb8 : cap * 8 ≤ 536870912) (hc : cn + 1 = cn') (hs : sn + cap = sn') (hc' : cn' ≤ R.cells) (hs' : sn' ≤ R.slots) (hp : pc + 2 = pc')
    (g : ∀ a, Go Z k cn' sn' ((a, ArL Z (List.replicate n.toNatClampNeg 0)) :: M) pc' Ls (.ref a :: st)) : Go Z k cn sn M pc Ls (.int n :: st) := by
  obtain ⟨p, l, e, R', s, m, args, below, meth, c, Q'⟩ := k
  obtain ⟨hx, hZ, hby, -, hown, hnm, -, -, ⟨a0, hw⟩, rfl, -⟩ := H
  subst hp hc hs
  intro T w
  obtain ⟨locs, X, F, OO⟩ := w
  obtain ⟨T', h', cA, X', e', E, A, sg⟩ := newP X hx hZ (aty := .long) (hw _ w1) rfl (g := mkF m pc Ls (.int n :: st)) rfl (hb hby hd) rfl hn hcap hb8 hc' hs'
  have hB : ArL Z (List.replicate n.toNatClampNeg 0) (newA cA .long n) := ⟨A.2.1, A.2.2, by simp [newA, defaultValue], by simp; omega⟩
  obtain ⟨t, o, hs, r⟩ := g _ T' ⟨_, X', F, e' ▸ OO.new E A.1 hB⟩
  exact ⟨t, o, sg _ hs, r⟩
/-! OWN KIT 3: contracts and calls -/
def MQ (Z : State) (rm : Room) (Q : Option Value → Hp → Prop) (U : State) (o : Outcome) (U' : State) : Prop := ∃ v L, o = .returned v ∧ (Fr Z.heap.size L ∧ ∃ M, Q v M ∧ Own Z U'.heap M) ∧ FrameEnd U o U' L rm.cells rm.slots
def Met (Z : State) (y : MethodName) (b : ByteArray) (ml : Nat) (rt : Option FieldType) (rm : Room) (as : List Value) (M : Hp) (Q : Option Value → Hp → Prop) : Prop :=
  ∀ (l : Launch) (h0 : Heap), Own Z h0 M → MetFree l y (head1 [Jvm.Cond.code y b ml rt] rm) (fun a U => a = as.toArray ∧ Z.Warmed39 U.vm ∧ U.heap = h0) (fun _ _ _ _ _ => True) (fun _ U o U' => ∃ v L, o = .returned v ∧ (Fr Z.heap.size L ∧ ∃ M, Q v M ∧ Own Z U'.heap M) ∧ FrameEnd U o U' L rm.cells rm.slots)
theorem met_of {ws : List Jvm.Cond} {as : List Value} {rm : Room} {h0 : Heap} (l : Launch) (hT : Tb Z) (hpl : plainFor y = true) (hef : ∀ m, entryFrame m as.toArray ml = mkF m 0 Ls []) (hO : Own Z h0 M) (body : ∀ k, Ok Z k rm Q y b ml rt → Go Z k 0 0 M 0 Ls []) :
    MetFree l y (head1 (Jvm.Cond.code y b ml rt :: ws) rm) (fun a U => a = as.toArray ∧ Z.Warmed39 U.vm ∧ U.heap = h0) (fun _ _ _ _ _ => True) (fun _ U o U' => ∃ v L, o = .returned v ∧ (Fr Z.heap.size L ∧ ∃ M, Q v M ∧ Own Z U'.heap M) ∧ FrameEnd U o U' L rm.cells rm.slots) := by
  refine MetFree.of_bodySF hpl hisR ?_
  intro p e s m args below meth c s₁ Bd hml0 hP hK
  obtain ⟨rfl, hZ, hh⟩ := hP
  have X0 : Stand p l e rm s m as.toArray below meth c s₁ [] 0 0 := Stand.of_body Bd
  have e0 : s₁.heap = h0 := by rw [← hh, Bd.state]; rfl
  obtain ⟨t, o, hs, r⟩ := body (p, l, e, rm, s, m, as.toArray, below, meth, c, Q) ⟨Bd.exec, hZ, Bd.bytes, hml0, findClass_of_methodNamed Bd.named, (name_of_methodNamed Bd.named Bd.method).1, Bd.returns, Bd.notSynchronized, hT, rfl, rfl⟩ s₁ ⟨[], X0, Fr.nil _, e0 ▸ hO⟩
  exact ⟨t, o, castTop (hef m) hs, r⟩
theorem Met.of {as : List Value} {rm : Room} (hT : Tb Z) (hpl : plainFor y = true) (hef : ∀ m, entryFrame m as.toArray ml = mkF m 0 Ls []) (body : ∀ k, Ok Z k rm Q y b ml rt → Go Z k 0 0 M 0 Ls []) : Met Z y b ml rt rm as M Q := fun l h0 hO => met_of l hT hpl hef hO body
theorem Met.mono {as : List Value} {rm : Room} {Q' : Option Value → Hp → Prop} (h : Met Z y b ml rt rm as M Q) (q : ∀ v M, Q v M → Q' v M) : Met Z y b ml rt rm as M Q' := fun l h0 hO p e ha hc hk s m args below hf happ hP hK => by
  obtain ⟨n, o, h1, h2, h3, v, L, h4, ⟨h5, M', h6, h7⟩, h8⟩ := h l h0 hO p e ha hc hk s m args below hf happ hP hK
  exact ⟨n, o, h1, h2, h3, v, L, h4, ⟨h5, M', q _ _ h6, h7⟩, h8⟩
theorem s_ret (H : Ok Z k R Q y b ml (some ty)) {i : Instr} {w : Value} (hd : decode b pc = .ok (i, 1)) (hn : narrow ty w = w)
    (hi : (i = .ireturn ∧ (ty = .int ∨ ty = .boolean ∨ ty = .byte ∨ ty = .char ∨ ty = .short) ∧ ∃ z, w = .int z) ∨ (i = .lreturn ∧ ty = .long ∧ ∃ z, w = .long z) ∨ (i = .dreturn ∧ ty = .double ∧ ∃ z, w = .double z) ∨ (i = .freturn ∧ ty = .float ∧ ∃ z, w = .float z) ∨ (i = .areturn ∧ ty.isReference = true ∧ w.isRef = true))
    (hc : cn ≤ R.cells) (hs : sn ≤ R.slots) (q : Q (some w) M) : Go Z k cn sn M pc Ls (w :: st) := by
  obtain ⟨p, l, e, R', s, m, args, below, meth, c, Q'⟩ := k
  obtain ⟨hx, hZ, hby, -, -, -, hret, hlk, -, rfl, rfl⟩ := H
  intro T w'
  obtain ⟨locs, X, F, O⟩ := w'
  obtain ⟨fs, hr, hrun, hended, hW, hsame⟩ := X.leave (v := some w) (fun h => by rw [hret] at h; cases h) hlk
  exact ⟨_, _, retOut X hx hret hn hi (hb hby hd) hr, hrun, hended, _, _, rfl, ⟨F, M, q, O⟩, ⟨_, rfl⟩, hW, hsame.mono hc hs⟩
theorem s_iret (H : Ok Z k R Q y b ml (some ty)) {z : Int32} (hd : decode b pc = .ok (.ireturn, 1)) (hn : narrow ty (.int z) = .int z) (ht : ty = .int ∨ ty = .boolean ∨ ty = .byte ∨ ty = .char ∨ ty = .short) (hc : cn ≤ R.cells) (hs : sn ≤ R.slots) (q : Q (some (.int z)) M) : Go Z k cn sn M pc Ls (.int z :: st) := s_ret H hd hn (Or.inl ⟨rfl, ht, z, rfl⟩) hc hs q
theorem s_lret (H : Ok Z k R Q y b ml (some .long)) {z : Int64} (hd : decode b pc = .ok (.lreturn, 1)) (hc : cn ≤ R.cells) (hs : sn ≤ R.slots) (q : Q (some (.long z)) M) : Go Z k cn sn M pc Ls (.long z :: st) := s_ret H hd rfl (Or.inr (Or.inl ⟨rfl, rfl, z, rfl⟩)) hc hs q
theorem s_aret (H : Ok Z k R Q y b ml (some ty)) {a : Addr} (hd : decode b pc = .ok (.areturn, 1)) (hn : narrow ty (.ref a) = .ref a) (ht : ty.isReference = true) (hc : cn ≤ R.cells) (hs : sn ≤ R.slots) (q : Q (some (.ref a)) M) : Go Z k cn sn M pc Ls (.ref a :: st) := s_ret H hd hn (Or.inr (Or.inr (Or.inr (Or.inr ⟨rfl, ht, rfl⟩)))) hc hs q
theorem s_vret (H : Ok Z k R Q y b ml none) (hd : decode b pc = .ok (.return_, 1)) (hc : cn ≤ R.cells) (hs : sn ≤ R.slots) (q : Q none M) : Go Z k cn sn M pc Ls [] := by
  obtain ⟨p, l, e, R', s, m, args, below, meth, c, Q'⟩ := k
  obtain ⟨hx, hZ, hby, -, -, -, hret, hlk, -, rfl, rfl⟩ := H
  intro T w'
  obtain ⟨locs, X, F, O⟩ := w'
  obtain ⟨fs, hr, hrun, hended, hW, hsame⟩ := X.leave (v := none) (fun _ => rfl) hlk
  exact ⟨_, _, X.returnOut hx hret (hb hby hd) hr, hrun, hended, _, _, rfl, ⟨F, M, q, O⟩, ⟨_, rfl⟩, hW, hsame.mono hc hs⟩
theorem s_objinit (H : Ok Z k R Q y b ml rt) {idx : Nat} {a : Addr} (hd : decode b pc = .ok (.invokespecial idx, 3)) (w1 : Jvm.Cond.methodLink y.cls idx Lib.objectInit ∈ tables_1) (w2 : Jvm.Cond.instanceMethod Lib.objectInit ∈ tables_1) (w3 : Jvm.Cond.code Lib.objectInit ⟨#[0xb1]⟩ 1 none ∈ tables_1) (hsz : Ls.size = ml) (hf : 1 ≤ R.frames) (hl : (st.map fun v => v.category).sum + 12 ≤ R.locals) (hp : pc + 3 = pc') (g : Go Z k cn sn M pc' Ls st) : Go Z k cn sn M pc Ls (.ref a :: st) := by
  obtain ⟨p, l, e, R', s, m, args, below, meth, c, Q'⟩ := k
  obtain ⟨hx, hZ, hby, hml, hown, hnm, -, -, ⟨a0, hw⟩, rfl, -⟩ := H
  subst hp
  intro T w
  obtain ⟨locs, X, F, OO⟩ := w
  obtain ⟨T', X', e', sg⟩ := initO X hx hZ hown (hw _ w1) (hw _ w2) (hw _ w3) rfl (g := mkF m pc Ls (.ref a :: st)) rfl (by rw [hml]; exact hsz) rfl (hb hby hd) hf (W := (st.map fun v => v.category).sum) (by show 2 * 0 + _ ≤ _; omega) hl
  obtain ⟨t, o, hs, r⟩ := g T' ⟨_, X', F, e' ▸ OO⟩
  exact ⟨t, o, sg _ hs, r⟩
theorem s_static (H : Ok Z k R Q y b ml rt) {idx cn' sn' : Nat} {y' : MethodName} {b' : ByteArray} {ml' : Nat} {rt' : Option FieldType} {rm : Room} {as rest : List Value} {Q' : Option Value → Hp → Prop} {sig : MethodDescriptor}
    (hM : Met Z y' b' ml' rt' rm as M Q') (hd : decode b pc = .ok (.invokestatic idx, 3)) (w1 : Jvm.Cond.methodLink y.cls idx y' ∈ tables_1) (w2 : Jvm.Cond.static y' ∈ tables_1) (w3 : Jvm.Cond.initialized y'.cls ∈ tables_1) (w4 : Jvm.Cond.code y' b' ml' rt' ∈ tables_1) (hy : y'.cls ≠ "java/lang/invoke/MethodHandle" ∧ y'.cls ≠ "java/lang/invoke/VarHandle")
    (hsig : parseMethodDescriptor y'.desc = some sig) (hlen : as.length = sig.parameters.length) (hst : st = as.reverse ++ rest) (hsz : Ls.size = ml) (hf : rm.frames + 1 ≤ R.frames) (hl : (rest.map fun v => v.category).sum + (ml' + 11) + rm.locals ≤ R.locals) (hc : cn + rm.cells = cn') (hs : sn + rm.slots = sn') (hc' : cn' ≤ R.cells) (hs' : sn' ≤ R.slots) (hp : pc + 3 = pc')
    (g : ∀ v M', Q' v M' → Go Z k cn' sn' M' pc' Ls (v.toList ++ rest)) : Go Z k cn sn M pc Ls st := by
  obtain ⟨p, l, e, R', s, m, args, below, meth, c, Q''⟩ := k
  obtain ⟨hx, hZ, hby, hml, hown, hnm, -, -, ⟨a0, hw⟩, rfl, -⟩ := H
  subst hp hc hs hst
  intro T w
  obtain ⟨locs, X, F, OO⟩ := w
  obtain ⟨v, _, ⟨T', L', k', n'⟩, -, X', ⟨Lc, ⟨hF, M', hQ, hO⟩, q1, q2, q3⟩, sg⟩ := Jvm.LawKit.callS X hx (y := y') hown (mvT hZ (hw _ w1)) (mvT hZ (hw _ w2)) (mvT hZ (hw _ w3)) (mvT hZ (hw _ w4)) hy (backOf (W := (rest.map fun v => v.category).sum) (Q := fun v h L => Fr Z.heap.size L ∧ ∃ M', Q' v M' ∧ Own Z h M') (hM l _ OO) hZ (hw _ w4) (hw _ w3) hf hl) (g := mkF m pc Ls (as.reverse ++ rest)) rfl (by rw [hml]; exact hsz) (argsL := as) (rest := rest) (lenOf (ps := sig.parameters) (r := sig.returnType) hsig hlen) rfl (by show 2 * 0 + _ ≤ _; omega) (hb hby hd) (fun _ _ => ⟨rfl, rfl, hc', hs'⟩)
  dsimp only [Pt.U, Pt.locs, Pt.cells, Pt.slots] at X' q1 q2 q3 sg hO
  subst q1 q2 q3
  obtain ⟨t, o, hs, r⟩ := g v M' hQ T' ⟨_, X', Fr.app F hF, hO⟩
  exact ⟨t, o, sg _ hs, r⟩
theorem s_init (H : Ok Z k R Q y b ml rt) {idx cn' sn' : Nat} {a : Addr} {y' : MethodName} {b' : ByteArray} {ml' : Nat} {rm : Room} {as rest : List Value} {Q' : Option Value → Hp → Prop} {sig : MethodDescriptor}
    (hM : Met Z y' b' ml' none rm (.ref a :: as) M Q') (hd : decode b pc = .ok (.invokespecial idx, 3)) (hy1 : y'.name = "<init>") (w1 : Jvm.Cond.methodLink y.cls idx y' ∈ tables_1) (w2 : Jvm.Cond.instanceMethod y' ∈ tables_1) (w3 : Jvm.Cond.initialized y'.cls ∈ tables_1) (w4 : Jvm.Cond.code y' b' ml' none ∈ tables_1) (hy : y'.cls ≠ "java/lang/invoke/MethodHandle" ∧ y'.cls ≠ "java/lang/invoke/VarHandle")
    (hsig : parseMethodDescriptor y'.desc = some sig) (hlen : as.length = sig.parameters.length) (hst : st = as.reverse ++ .ref a :: rest) (hsz : Ls.size = ml) (hf : rm.frames + 1 ≤ R.frames) (hl : (rest.map fun v => v.category).sum + (ml' + 11) + rm.locals ≤ R.locals) (hc : cn + rm.cells = cn') (hs : sn + rm.slots = sn') (hc' : cn' ≤ R.cells) (hs' : sn' ≤ R.slots) (hp : pc + 3 = pc')
    (g : ∀ v M', Q' v M' → Go Z k cn' sn' M' pc' Ls (v.toList ++ rest)) : Go Z k cn sn M pc Ls st := by
  obtain ⟨p, l, e, R', s, m, args, below, meth, c, Q''⟩ := k
  obtain ⟨hx, hZ, hby, hml, hown, hnm, -, -, ⟨a0, hw⟩, rfl, -⟩ := H
  subst hp hc hs hst
  intro T w
  obtain ⟨locs, X, F, OO⟩ := w
  obtain ⟨v, _, ⟨T', L', k', n'⟩, -, X', ⟨Lc, ⟨hF, M', hQ, hO⟩, q1, q2, q3⟩, sg⟩ := X.specialBack hx (y := y') hy1 hown (mvT hZ (hw _ w1)) (mvT hZ (hw _ w2)) (mvT hZ (hw _ w4)) hy (backOf (W := (rest.map fun v => v.category).sum) (Q := fun v h L => Fr Z.heap.size L ∧ ∃ M', Q' v M' ∧ Own Z h M') (hM l _ OO) hZ (hw _ w4) (hw _ w3) hf hl) (g := mkF m pc Ls (as.reverse ++ .ref a :: rest)) rfl (by rw [hml]; exact hsz) (Steps.refl _) (a := a) (argsL := as) (rest := rest) (lenOf (ps := sig.parameters) (r := sig.returnType) hsig hlen) rfl (by show 2 * 0 + _ ≤ _; omega) (hb hby hd) (fun _ _ => ⟨rfl, rfl, hc', hs'⟩)
  dsimp only [Pt.U, Pt.locs, Pt.cells, Pt.slots] at X' q1 q2 q3 sg hO
  subst q1 q2 q3
  obtain ⟨t, o, hs, r⟩ := g v M' hQ T' ⟨_, X', Fr.app F hF, hO⟩
  exact ⟨t, o, sg.trans hs, r⟩
theorem s_virtual (H : Ok Z k R Q y b ml rt) {i idx cn' sn' : Nat} {a : Addr} {C : String} {fs : List Fd} {y' : MethodName} {b' : ByteArray} {ml' : Nat} {rt' : Option FieldType} {rm : Room} {as rest : List Value} {Q' : Option Value → Hp → Prop} {sig : MethodDescriptor}
    (hM : Met Z y' b' ml' rt' rm (.ref a :: as) M Q') (hd : decode b pc = .ok (.invokevirtual idx, 3)) (hi : M[i]? = some (a, Obj Z C fs)) (w1 : Jvm.Cond.methodLink y.cls idx y' ∈ tables_1) (w2 : Jvm.Cond.declares y' ∈ tables_1) (w5 : Jvm.Cond.selects C y' y' ∈ tables_1) (w6 : Jvm.Cond.instanceMethod y' ∈ tables_1) (w3 : Jvm.Cond.initialized y'.cls ∈ tables_1) (w4 : Jvm.Cond.code y' b' ml' rt' ∈ tables_1) (hy : y'.cls ≠ "java/lang/invoke/MethodHandle" ∧ y'.cls ≠ "java/lang/invoke/VarHandle")
    (hsig : parseMethodDescriptor y'.desc = some sig) (hlen : as.length = sig.parameters.length) (hst : st = as.reverse ++ .ref a :: rest) (hsz : Ls.size = ml) (hf : rm.frames + 1 ≤ R.frames) (hl : (rest.map fun v => v.category).sum + (ml' + 11) + rm.locals ≤ R.locals) (hc : cn + rm.cells = cn') (hs : sn + rm.slots = sn') (hc' : cn' ≤ R.cells) (hs' : sn' ≤ R.slots) (hp : pc + 3 = pc')
    (g : ∀ v M', Q' v M' → Go Z k cn' sn' M' pc' Ls (v.toList ++ rest)) : Go Z k cn sn M pc Ls st := by
  obtain ⟨p, l, e, R', s, m, args, below, meth, c, Q''⟩ := k
  obtain ⟨hx, hZ, hby, hml, hown, hnm, -, -, ⟨a0, hw⟩, rfl, -⟩ := H
  subst hp hc hs hst
  intro T w
  obtain ⟨locs, X, F, OO⟩ := w
  obtain ⟨-, cl, c1, c2⟩ := OO.2.1 i _ hi
  obtain ⟨cq, kq, qa, qb, qc⟩ := isOf hZ rfl (c2.1 _ _ c1).1
  obtain ⟨v, _, ⟨T', L', k', n'⟩, -, X', ⟨Lc, ⟨hF, M', hQ, hO⟩, q1, q2, q3⟩, sg⟩ := X.virtualBack hx (y := y') (z := y') hown (mvT hZ (hw _ w1)) (mvT hZ (hw _ w2)) (notFace_of_selects (args := #[]) (mvT hZ (hw _ w5))) (mvT hZ (hw _ w5)) (mvT hZ (hw _ w6)) hy (backOf (W := (rest.map fun v => v.category).sum) (Q := fun v h L => Fr Z.heap.size L ∧ ∃ M', Q' v M' ∧ Own Z h M') (hM l _ OO) hZ (hw _ w4) (hw _ w3) hf hl) qa qc (g := mkF m pc Ls (as.reverse ++ .ref a :: rest)) rfl (by rw [hml]; exact hsz) (Steps.refl _) (argsL := as) (rest := rest) (lenOf (ps := sig.parameters) (r := sig.returnType) hsig hlen) rfl (by show 2 * 0 + _ ≤ _; omega) (hb hby hd) (fun _ _ => ⟨rfl, rfl, hc', hs'⟩)
  dsimp only [Pt.U, Pt.locs, Pt.cells, Pt.slots] at X' q1 q2 q3 sg hO
  subst q1 q2 q3
  obtain ⟨t, o, hs, r⟩ := g v M' hQ T' ⟨_, X', Fr.app F hF, hO⟩
  exact ⟨t, o, sg.trans hs, r⟩
theorem s_priv (H : Ok Z k R Q y b ml rt) {i idx cn' sn' : Nat} {a : Addr} {C : String} {fs : List Fd} {y' y0 : MethodName} {b' : ByteArray} {ml' : Nat} {rt' : Option FieldType} {rm : Room} {as rest : List Value} {Q' : Option Value → Hp → Prop} {sig : MethodDescriptor}
    (hM : Met Z y' b' ml' rt' rm (.ref a :: as) M Q') (hd : decode b pc = .ok (.invokevirtual idx, 3)) (hi : M[i]? = some (a, Obj Z C fs)) (w1 : Jvm.Cond.methodLink y.cls idx y' ∈ tables_1) (w2 : Jvm.Cond.privateMethod y' ∈ tables_1) (w5 : Jvm.Cond.selects y'.cls y0 y0 ∈ tables_1) (h0 : y0.cls = y'.cls) (w6 : Jvm.Cond.instanceMethod y' ∈ tables_1) (w3 : Jvm.Cond.initialized y'.cls ∈ tables_1) (w4 : Jvm.Cond.code y' b' ml' rt' ∈ tables_1) (hy : y'.cls ≠ "java/lang/invoke/MethodHandle" ∧ y'.cls ≠ "java/lang/invoke/VarHandle")
    (hsig : parseMethodDescriptor y'.desc = some sig) (hlen : as.length = sig.parameters.length) (hst : st = as.reverse ++ .ref a :: rest) (hsz : Ls.size = ml) (hf : rm.frames + 1 ≤ R.frames) (hl : (rest.map fun v => v.category).sum + (ml' + 11) + rm.locals ≤ R.locals) (hc : cn + rm.cells = cn') (hs : sn + rm.slots = sn') (hc' : cn' ≤ R.cells) (hs' : sn' ≤ R.slots) (hp : pc + 3 = pc')
    (g : ∀ v M', Q' v M' → Go Z k cn' sn' M' pc' Ls (v.toList ++ rest)) : Go Z k cn sn M pc Ls st := by
  obtain ⟨p, l, e, R', s, m, args, below, meth, c, Q''⟩ := k
  obtain ⟨hx, hZ, hby, hml, hown, hnm, -, -, ⟨a0, hw⟩, rfl, -⟩ := H
  subst hp hc hs hst
  intro T w
  obtain ⟨locs, X, F, OO⟩ := w
  obtain ⟨-, cl, c1, c2⟩ := OO.2.1 i _ hi
  obtain ⟨cl', d1, d2⟩ := (c2.1 _ _ c1).1.cell
  have hpriv : s.PrivateAt y' := Cond.privateMethod_at (mvP hZ (hw _ w2) (args := #[]))
  obtain ⟨mk, mM, hn, hm, hst, hab⟩ := Cond.instanceMethod_spec (mvT (args := #[]) hZ (hw _ w6))
  obtain ⟨c3, r3, m3, -, -, n3, -, kP, hk, hkI⟩ := Cond.selects_spec (mvT (args := #[]) hZ (hw _ w5))
  have e3 : m3.cls = mk.cls := by
    have u1 := findClass_of_methodNamed n3
    have u2 := findClass_of_methodNamed hn
    rw [h0, u2] at u1; exact (Option.some.inj u1).symm
  rw [e3] at hk
  obtain ⟨mM', cM, hm2, -, -, -, -, -, -, hsg⟩ := Cond.code_spec hn (mvT (args := #[]) hZ (hw _ w4))
  cases hm.symm.trans hm2
  obtain ⟨vm₁, X₁, st₁⟩ := X.invokevirtual hx hown (mvT hZ (hw _ w1)) hn hm hst hk hkI hy (a := a) d1 d2 (selectMethod_private hm (hpriv mk _ hn hm)) hm hab hk hkI (g := mkF m pc Ls (as.reverse ++ .ref a :: rest)) rfl (argsL := as) (rest := rest) (lenOf (ps := sig.parameters) (r := sig.returnType) hsig hlen _ hsg) rfl (hb hby hd)
  have hK := backOf (l := l) (p := p) (e := e) (below := below) (R := R') (args := args) (len := 3) (W := (rest.map fun v => v.category).sum) (Q := fun v h L => Fr Z.heap.size L ∧ ∃ M', Q' v M' ∧ Own Z h M') (hM l _ OO) hZ (hw _ w4) (hw _ w3) hf hl
  obtain ⟨v, ⟨T', L', k', n'⟩, X', ⟨Lc, ⟨hF, M', hQ, hO⟩, q1, q2, q3⟩, sg⟩ := hK m meth c ⟨T.setVm vm₁, locs, cn, sn⟩ (mkF m pc Ls rest) (.invokevirtual idx) mk (.ref a :: as).toArray X₁ rfl (by rw [hml]; exact hsz) (hb hby hd) (by show 2 * 0 + (rest.map fun v => v.category).sum ≤ _; omega) (X₁.named hn) ⟨rfl, rfl, hc', hs'⟩
  dsimp only [Pt.U, Pt.locs, Pt.cells, Pt.slots] at X' q1 q2 q3 sg hO
  subst q1 q2 q3
  obtain ⟨t, o, hs, r⟩ := g v M' hQ T' ⟨_, X', Fr.app F hF, hO⟩
  exact ⟨t, o, st₁ _ (fun acts => by rw [doInvoke_state]; exact sg.trans hs), r⟩
end Kit
theorem own_nat {m : Nat} (h : m < 2147483648) : m.toInt32.toNatClampNeg = m ∧ ¬ m.toInt32 < 0 ∧ m.toInt32.toInt = m := by
  have e : m.toInt32.toInt = m := Int32.toInt_ofNat_small (by omega)
  refine ⟨?_, ?_, e⟩
  · show m.toInt32.toInt.toNat = m
    rw [e]; rfl
  · rw [Int32.lt_iff_toInt_lt, e, show (0 : Int32).toInt = 0 from by decide]; omega
theorem own_lt {m n : Nat} (h : m < 2147483648) (h' : n < 2147483648) : m.toInt32 < n.toInt32 ↔ m < n := by rw [Int32.lt_iff_toInt_lt, (own_nat h).2.2, (own_nat h').2.2]; omega
theorem own_le {m n : Nat} (h : m < 2147483648) (h' : n < 2147483648) : m.toInt32 ≤ n.toInt32 ↔ m ≤ n := by rw [Int32.le_iff_toInt_le, (own_nat h).2.2, (own_nat h').2.2]; omega
theorem own_succ (m : Nat) : m.toInt32 + 1 = (m + 1).toInt32 := by
  show Int32.ofNat m + Int32.ofNat 1 = Int32.ofNat (m + 1)
  rw [← Int32.ofNat_add]
theorem allN {α : Type} {P : α → Prop} : ∀ x ∈ ([] : List α), P x := fun _ q => nomatch q
theorem allC {α : Type} {P : α → Prop} {z : α} {L : List α} (q : P z) (r : ∀ x ∈ L, P x) : ∀ x ∈ z :: L, P x := fun x h => (List.mem_cons.mp h).elim (fun u => u ▸ q) (r x)
abbrev y_1 : MethodName := ⟨"com/example/remint/remint/BlockLayoutBlockOfPinLaw", "expectedBands", "(I)I"⟩
theorem d1_0 : decode method_2_code 0 = .ok (.iload_n 0, 1) := by decide +kernel
theorem d1_1 : decode method_2_code 1 = .ok (.bipush 7, 2) := by decide +kernel
theorem d1_3 : decode method_2_code 3 = .ok (.if_icmp .gt 5, 3) := by decide +kernel
theorem d1_6 : decode method_2_code 6 = .ok (.iconst 1, 1) := by decide +kernel
theorem d1_7 : decode method_2_code 7 = .ok (.ireturn, 1) := by decide +kernel
theorem d1_8 : decode method_2_code 8 = .ok (.iload_n 0, 1) := by decide +kernel
theorem d1_9 : decode method_2_code 9 = .ok (.bipush 13, 2) := by decide +kernel
theorem d1_11 : decode method_2_code 11 = .ok (.if_icmp .gt 5, 3) := by decide +kernel
theorem d1_14 : decode method_2_code 14 = .ok (.iconst 2, 1) := by decide +kernel
theorem d1_15 : decode method_2_code 15 = .ok (.ireturn, 1) := by decide +kernel
theorem d1_16 : decode method_2_code 16 = .ok (.iload_n 0, 1) := by decide +kernel
theorem d1_17 : decode method_2_code 17 = .ok (.bipush 19, 2) := by decide +kernel
theorem d1_19 : decode method_2_code 19 = .ok (.if_icmp .gt 5, 3) := by decide +kernel
theorem d1_22 : decode method_2_code 22 = .ok (.iconst 3, 1) := by decide +kernel
theorem d1_23 : decode method_2_code 23 = .ok (.ireturn, 1) := by decide +kernel
theorem d1_24 : decode method_2_code 24 = .ok (.iconst 4, 1) := by decide +kernel
theorem d1_25 : decode method_2_code 25 = .ok (.ireturn, 1) := by decide +kernel
theorem pl_1 : plainFor y_1 = true := plainFor_of_name (by first | (simp [plainName, overriddenIn]; done) | decide +kernel)
theorem pd_1 : parseMethodDescriptor "(I)I" = some ⟨[.int], some .int⟩ := by decide +kernel
abbrev y_2 : MethodName := ⟨"com/example/remint/remint/BlockLayout", "<init>", "(I)V"⟩
theorem d2_0 : decode prog_1_method_1_code 0 = .ok (.aload_n 0, 1) := by decide +kernel
theorem d2_1 : decode prog_1_method_1_code 1 = .ok (.invokespecial 5, 3) := by decide +kernel
theorem d2_4 : decode prog_1_method_1_code 4 = .ok (.aload_n 0, 1) := by decide +kernel
theorem d2_5 : decode prog_1_method_1_code 5 = .ok (.iload_n 1, 1) := by decide +kernel
theorem d2_6 : decode prog_1_method_1_code 6 = .ok (.putfield 11, 3) := by decide +kernel
theorem d2_9 : decode prog_1_method_1_code 9 = .ok (.iconst 1, 1) := by decide +kernel
theorem d2_10 : decode prog_1_method_1_code 10 = .ok (.iload_n 1, 1) := by decide +kernel
theorem d2_11 : decode prog_1_method_1_code 11 = .ok (.iconst 1, 1) := by decide +kernel
theorem d2_12 : decode prog_1_method_1_code 12 = .ok (.isub, 1) := by decide +kernel
theorem d2_13 : decode prog_1_method_1_code 13 = .ok (.bipush 6, 2) := by decide +kernel
theorem d2_15 : decode prog_1_method_1_code 15 = .ok (.iadd, 1) := by decide +kernel
theorem d2_16 : decode prog_1_method_1_code 16 = .ok (.iconst 1, 1) := by decide +kernel
theorem d2_17 : decode prog_1_method_1_code 17 = .ok (.isub, 1) := by decide +kernel
theorem d2_18 : decode prog_1_method_1_code 18 = .ok (.bipush 6, 2) := by decide +kernel
theorem d2_20 : decode prog_1_method_1_code 20 = .ok (.idiv, 1) := by decide +kernel
theorem d2_21 : decode prog_1_method_1_code 21 = .ok (.invokestatic 17, 3) := by decide +kernel
theorem d2_24 : decode prog_1_method_1_code 24 = .ok (.istore_n 2, 1) := by decide +kernel
theorem d2_25 : decode prog_1_method_1_code 25 = .ok (.aload_n 0, 1) := by decide +kernel
theorem d2_26 : decode prog_1_method_1_code 26 = .ok (.iload_n 2, 1) := by decide +kernel
theorem d2_27 : decode prog_1_method_1_code 27 = .ok (.newarray .int, 2) := by decide +kernel
theorem d2_29 : decode prog_1_method_1_code 29 = .ok (.putfield 23, 3) := by decide +kernel
theorem d2_32 : decode prog_1_method_1_code 32 = .ok (.aload_n 0, 1) := by decide +kernel
theorem d2_33 : decode prog_1_method_1_code 33 = .ok (.iload_n 2, 1) := by decide +kernel
theorem d2_34 : decode prog_1_method_1_code 34 = .ok (.newarray .int, 2) := by decide +kernel
theorem d2_36 : decode prog_1_method_1_code 36 = .ok (.putfield 27, 3) := by decide +kernel
theorem d2_39 : decode prog_1_method_1_code 39 = .ok (.aload_n 0, 1) := by decide +kernel
theorem d2_40 : decode prog_1_method_1_code 40 = .ok (.iload_n 2, 1) := by decide +kernel
theorem d2_41 : decode prog_1_method_1_code 41 = .ok (.newarray .long, 2) := by decide +kernel
theorem d2_43 : decode prog_1_method_1_code 43 = .ok (.putfield 30, 3) := by decide +kernel
theorem d2_46 : decode prog_1_method_1_code 46 = .ok (.ldc2_w 34, 3) := by decide +kernel
theorem d2_49 : decode prog_1_method_1_code 49 = .ok (.lstore_n 3, 1) := by decide +kernel
theorem d2_50 : decode prog_1_method_1_code 50 = .ok (.iconst 0, 1) := by decide +kernel
theorem d2_51 : decode prog_1_method_1_code 51 = .ok (.istore 5, 2) := by decide +kernel
theorem d2_53 : decode prog_1_method_1_code 53 = .ok (.iload 5, 2) := by decide +kernel
theorem d2_55 : decode prog_1_method_1_code 55 = .ok (.iload_n 2, 1) := by decide +kernel
theorem d2_56 : decode prog_1_method_1_code 56 = .ok (.if_icmp .ge 87, 3) := by decide +kernel
theorem d2_59 : decode prog_1_method_1_code 59 = .ok (.iload_n 1, 1) := by decide +kernel
theorem d2_60 : decode prog_1_method_1_code 60 = .ok (.iconst 1, 1) := by decide +kernel
theorem d2_61 : decode prog_1_method_1_code 61 = .ok (.isub, 1) := by decide +kernel
theorem d2_62 : decode prog_1_method_1_code 62 = .ok (.bipush 6, 2) := by decide +kernel
theorem d2_64 : decode prog_1_method_1_code 64 = .ok (.iload_n 2, 1) := by decide +kernel
theorem d2_65 : decode prog_1_method_1_code 65 = .ok (.iconst 1, 1) := by decide +kernel
theorem d2_66 : decode prog_1_method_1_code 66 = .ok (.isub, 1) := by decide +kernel
theorem d2_67 : decode prog_1_method_1_code 67 = .ok (.iload 5, 2) := by decide +kernel
theorem d2_69 : decode prog_1_method_1_code 69 = .ok (.isub, 1) := by decide +kernel
theorem d2_70 : decode prog_1_method_1_code 70 = .ok (.imul, 1) := by decide +kernel
theorem d2_71 : decode prog_1_method_1_code 71 = .ok (.isub, 1) := by decide +kernel
theorem d2_72 : decode prog_1_method_1_code 72 = .ok (.istore 6, 2) := by decide +kernel
theorem d2_74 : decode prog_1_method_1_code 74 = .ok (.aload_n 0, 1) := by decide +kernel
theorem d2_75 : decode prog_1_method_1_code 75 = .ok (.getfield 23, 3) := by decide +kernel
theorem d2_78 : decode prog_1_method_1_code 78 = .ok (.iload 5, 2) := by decide +kernel
theorem d2_80 : decode prog_1_method_1_code 80 = .ok (.iconst 1, 1) := by decide +kernel
theorem d2_81 : decode prog_1_method_1_code 81 = .ok (.iload 6, 2) := by decide +kernel
theorem d2_83 : decode prog_1_method_1_code 83 = .ok (.bipush 6, 2) := by decide +kernel
theorem d2_85 : decode prog_1_method_1_code 85 = .ok (.isub, 1) := by decide +kernel
theorem d2_86 : decode prog_1_method_1_code 86 = .ok (.iconst 1, 1) := by decide +kernel
theorem d2_87 : decode prog_1_method_1_code 87 = .ok (.iadd, 1) := by decide +kernel
theorem d2_88 : decode prog_1_method_1_code 88 = .ok (.invokestatic 17, 3) := by decide +kernel
theorem d2_91 : decode prog_1_method_1_code 91 = .ok (.iastore, 1) := by decide +kernel
theorem d2_92 : decode prog_1_method_1_code 92 = .ok (.aload_n 0, 1) := by decide +kernel
theorem d2_93 : decode prog_1_method_1_code 93 = .ok (.getfield 27, 3) := by decide +kernel
theorem d2_96 : decode prog_1_method_1_code 96 = .ok (.iload 5, 2) := by decide +kernel
theorem d2_98 : decode prog_1_method_1_code 98 = .ok (.iload 6, 2) := by decide +kernel
theorem d2_100 : decode prog_1_method_1_code 100 = .ok (.aload_n 0, 1) := by decide +kernel
theorem d2_101 : decode prog_1_method_1_code 101 = .ok (.getfield 23, 3) := by decide +kernel
theorem d2_104 : decode prog_1_method_1_code 104 = .ok (.iload 5, 2) := by decide +kernel
theorem d2_106 : decode prog_1_method_1_code 106 = .ok (.iaload, 1) := by decide +kernel
theorem d2_107 : decode prog_1_method_1_code 107 = .ok (.isub, 1) := by decide +kernel
theorem d2_108 : decode prog_1_method_1_code 108 = .ok (.iconst 1, 1) := by decide +kernel
theorem d2_109 : decode prog_1_method_1_code 109 = .ok (.iadd, 1) := by decide +kernel
theorem d2_110 : decode prog_1_method_1_code 110 = .ok (.iastore, 1) := by decide +kernel
theorem d2_111 : decode prog_1_method_1_code 111 = .ok (.aload_n 0, 1) := by decide +kernel
theorem d2_112 : decode prog_1_method_1_code 112 = .ok (.getfield 30, 3) := by decide +kernel
theorem d2_115 : decode prog_1_method_1_code 115 = .ok (.iload 5, 2) := by decide +kernel
theorem d2_117 : decode prog_1_method_1_code 117 = .ok (.lload_n 3, 1) := by decide +kernel
theorem d2_118 : decode prog_1_method_1_code 118 = .ok (.lastore, 1) := by decide +kernel
theorem d2_119 : decode prog_1_method_1_code 119 = .ok (.lload_n 3, 1) := by decide +kernel
theorem d2_120 : decode prog_1_method_1_code 120 = .ok (.aload_n 0, 1) := by decide +kernel
theorem d2_121 : decode prog_1_method_1_code 121 = .ok (.iload 5, 2) := by decide +kernel
theorem d2_123 : decode prog_1_method_1_code 123 = .ok (.invokevirtual 36, 3) := by decide +kernel
theorem d2_126 : decode prog_1_method_1_code 126 = .ok (.i2l, 1) := by decide +kernel
theorem d2_127 : decode prog_1_method_1_code 127 = .ok (.aload_n 0, 1) := by decide +kernel
theorem d2_128 : decode prog_1_method_1_code 128 = .ok (.iload 5, 2) := by decide +kernel
theorem d2_130 : decode prog_1_method_1_code 130 = .ok (.invokevirtual 40, 3) := by decide +kernel
theorem d2_133 : decode prog_1_method_1_code 133 = .ok (.i2l, 1) := by decide +kernel
theorem d2_134 : decode prog_1_method_1_code 134 = .ok (.lmul, 1) := by decide +kernel
theorem d2_135 : decode prog_1_method_1_code 135 = .ok (.ladd, 1) := by decide +kernel
theorem d2_136 : decode prog_1_method_1_code 136 = .ok (.lstore_n 3, 1) := by decide +kernel
theorem d2_137 : decode prog_1_method_1_code 137 = .ok (.iinc 5 1, 3) := by decide +kernel
theorem d2_140 : decode prog_1_method_1_code 140 = .ok (.goto (-87), 3) := by decide +kernel
theorem d2_143 : decode prog_1_method_1_code 143 = .ok (.aload_n 0, 1) := by decide +kernel
theorem d2_144 : decode prog_1_method_1_code 144 = .ok (.lload_n 3, 1) := by decide +kernel
theorem d2_145 : decode prog_1_method_1_code 145 = .ok (.putfield 43, 3) := by decide +kernel
theorem d2_148 : decode prog_1_method_1_code 148 = .ok (.return_, 1) := by decide +kernel
theorem pl_2 : plainFor y_2 = true := plainFor_of_name (by first | (simp [plainName, overriddenIn]; done) | decide +kernel)
theorem pd_2 : parseMethodDescriptor "(I)V" = some ⟨[.int], none⟩ := by decide +kernel
abbrev y_4 : MethodName := ⟨"java/lang/Math", "max", "(II)I"⟩
theorem d4_0 : decode jdk_29_method_65_code 0 = .ok (.iload_n 0, 1) := by decide +kernel
theorem d4_1 : decode jdk_29_method_65_code 1 = .ok (.iload_n 1, 1) := by decide +kernel
theorem d4_2 : decode jdk_29_method_65_code 2 = .ok (.if_icmp .lt 7, 3) := by decide +kernel
theorem d4_5 : decode jdk_29_method_65_code 5 = .ok (.iload_n 0, 1) := by decide +kernel
theorem d4_6 : decode jdk_29_method_65_code 6 = .ok (.goto 4, 3) := by decide +kernel
theorem d4_9 : decode jdk_29_method_65_code 9 = .ok (.iload_n 1, 1) := by decide +kernel
theorem d4_10 : decode jdk_29_method_65_code 10 = .ok (.ireturn, 1) := by decide +kernel
theorem pl_4 : plainFor y_4 = true := Jvm.Free.JP.mathPlain rfl (by decide +kernel)
theorem pd_4 : parseMethodDescriptor "(II)I" = some ⟨[.int, .int], some .int⟩ := by decide +kernel
abbrev y_5 : MethodName := ⟨"com/example/remint/remint/BlockLayout", "blockCount", "(I)I"⟩
theorem d5_0 : decode prog_1_method_11_code 0 = .ok (.iconst 1, 1) := by decide +kernel
theorem d5_1 : decode prog_1_method_11_code 1 = .ok (.aload_n 0, 1) := by decide +kernel
theorem d5_2 : decode prog_1_method_11_code 2 = .ok (.getfield 23, 3) := by decide +kernel
theorem d5_5 : decode prog_1_method_11_code 5 = .ok (.iload_n 1, 1) := by decide +kernel
theorem d5_6 : decode prog_1_method_11_code 6 = .ok (.iaload, 1) := by decide +kernel
theorem d5_7 : decode prog_1_method_11_code 7 = .ok (.iconst 1, 1) := by decide +kernel
theorem d5_8 : decode prog_1_method_11_code 8 = .ok (.isub, 1) := by decide +kernel
theorem d5_9 : decode prog_1_method_11_code 9 = .ok (.ishl, 1) := by decide +kernel
theorem d5_10 : decode prog_1_method_11_code 10 = .ok (.ireturn, 1) := by decide +kernel
theorem pl_5 : plainFor y_5 = true := plainFor_of_name (by first | (simp [plainName, overriddenIn]; done) | decide +kernel)
theorem pd_5 : parseMethodDescriptor "(I)I" = some ⟨[.int], some .int⟩ := by decide +kernel
abbrev y_6 : MethodName := ⟨"com/example/remint/remint/BlockLayout", "blockBytes", "(I)I"⟩
theorem d6_0 : decode prog_1_method_4_code 0 = .ok (.aload_n 0, 1) := by decide +kernel
theorem d6_1 : decode prog_1_method_4_code 1 = .ok (.iload_n 1, 1) := by decide +kernel
theorem d6_2 : decode prog_1_method_4_code 2 = .ok (.invokevirtual 47, 3) := by decide +kernel
theorem d6_5 : decode prog_1_method_4_code 5 = .ok (.bipush 32, 2) := by decide +kernel
theorem d6_7 : decode prog_1_method_4_code 7 = .ok (.imul, 1) := by decide +kernel
theorem d6_8 : decode prog_1_method_4_code 8 = .ok (.aload_n 0, 1) := by decide +kernel
theorem d6_9 : decode prog_1_method_4_code 9 = .ok (.iload_n 1, 1) := by decide +kernel
theorem d6_10 : decode prog_1_method_4_code 10 = .ok (.invokevirtual 50, 3) := by decide +kernel
theorem d6_13 : decode prog_1_method_4_code 13 = .ok (.iconst 4, 1) := by decide +kernel
theorem d6_14 : decode prog_1_method_4_code 14 = .ok (.imul, 1) := by decide +kernel
theorem d6_15 : decode prog_1_method_4_code 15 = .ok (.iadd, 1) := by decide +kernel
theorem d6_16 : decode prog_1_method_4_code 16 = .ok (.ireturn, 1) := by decide +kernel
theorem pl_6 : plainFor y_6 = true := plainFor_of_name (by first | (simp [plainName, overriddenIn]; done) | decide +kernel)
theorem pd_6 : parseMethodDescriptor "(I)I" = some ⟨[.int], some .int⟩ := by decide +kernel
abbrev y_7 : MethodName := ⟨"com/example/remint/remint/BlockLayout", "values", "(I)I"⟩
theorem d7_0 : decode prog_1_method_12_code 0 = .ok (.iconst 2, 1) := by decide +kernel
theorem d7_1 : decode prog_1_method_12_code 1 = .ok (.aload_n 0, 1) := by decide +kernel
theorem d7_2 : decode prog_1_method_12_code 2 = .ok (.getfield 27, 3) := by decide +kernel
theorem d7_5 : decode prog_1_method_12_code 5 = .ok (.iload_n 1, 1) := by decide +kernel
theorem d7_6 : decode prog_1_method_12_code 6 = .ok (.iaload, 1) := by decide +kernel
theorem d7_7 : decode prog_1_method_12_code 7 = .ok (.ishl, 1) := by decide +kernel
theorem d7_8 : decode prog_1_method_12_code 8 = .ok (.iconst 2, 1) := by decide +kernel
theorem d7_9 : decode prog_1_method_12_code 9 = .ok (.isub, 1) := by decide +kernel
theorem d7_10 : decode prog_1_method_12_code 10 = .ok (.ireturn, 1) := by decide +kernel
theorem pl_7 : plainFor y_7 = true := plainFor_of_name (by first | (simp [plainName, overriddenIn]; done) | decide +kernel)
theorem pd_7 : parseMethodDescriptor "(I)I" = some ⟨[.int], some .int⟩ := by decide +kernel
abbrev y_8 : MethodName := ⟨"com/example/remint/remint/BlockLayout", "bounds", "(I)I"⟩
theorem d8_0 : decode prog_1_method_13_code 0 = .ok (.iload_n 1, 1) := by decide +kernel
theorem d8_1 : decode prog_1_method_13_code 1 = .ok (.aload_n 0, 1) := by decide +kernel
theorem d8_2 : decode prog_1_method_13_code 2 = .ok (.invokevirtual 62, 3) := by decide +kernel
theorem d8_5 : decode prog_1_method_13_code 5 = .ok (.iconst 1, 1) := by decide +kernel
theorem d8_6 : decode prog_1_method_13_code 6 = .ok (.isub, 1) := by decide +kernel
theorem d8_7 : decode prog_1_method_13_code 7 = .ok (.if_icmp .ne 16, 3) := by decide +kernel
theorem d8_10 : decode prog_1_method_13_code 10 = .ok (.iconst 1, 1) := by decide +kernel
theorem d8_11 : decode prog_1_method_13_code 11 = .ok (.aload_n 0, 1) := by decide +kernel
theorem d8_12 : decode prog_1_method_13_code 12 = .ok (.getfield 27, 3) := by decide +kernel
theorem d8_15 : decode prog_1_method_13_code 15 = .ok (.iload_n 1, 1) := by decide +kernel
theorem d8_16 : decode prog_1_method_13_code 16 = .ok (.iaload, 1) := by decide +kernel
theorem d8_17 : decode prog_1_method_13_code 17 = .ok (.ishl, 1) := by decide +kernel
theorem d8_18 : decode prog_1_method_13_code 18 = .ok (.iconst 1, 1) := by decide +kernel
theorem d8_19 : decode prog_1_method_13_code 19 = .ok (.iadd, 1) := by decide +kernel
theorem d8_20 : decode prog_1_method_13_code 20 = .ok (.goto 4, 3) := by decide +kernel
theorem d8_23 : decode prog_1_method_13_code 23 = .ok (.iconst 0, 1) := by decide +kernel
theorem d8_24 : decode prog_1_method_13_code 24 = .ok (.ireturn, 1) := by decide +kernel
theorem pl_8 : plainFor y_8 = true := plainFor_of_name (by first | (simp [plainName, overriddenIn]; done) | decide +kernel)
theorem pd_8 : parseMethodDescriptor "(I)I" = some ⟨[.int], some .int⟩ := by decide +kernel
abbrev y_9 : MethodName := ⟨"com/example/remint/remint/BlockLayout", "bands", "()I"⟩
theorem d9_0 : decode prog_1_method_3_code 0 = .ok (.aload_n 0, 1) := by decide +kernel
theorem d9_1 : decode prog_1_method_3_code 1 = .ok (.getfield 23, 3) := by decide +kernel
theorem d9_4 : decode prog_1_method_3_code 4 = .ok (.arraylength, 1) := by decide +kernel
theorem d9_5 : decode prog_1_method_3_code 5 = .ok (.ireturn, 1) := by decide +kernel
theorem pl_9 : plainFor y_9 = true := plainFor_of_name (by first | (simp [plainName, overriddenIn]; done) | decide +kernel)
theorem pd_9 : parseMethodDescriptor "()I" = some ⟨[], some .int⟩ := by decide +kernel
abbrev y_10 : MethodName := ⟨"java/lang/Math", "min", "(II)I"⟩
theorem d10_0 : decode jdk_29_method_69_code 0 = .ok (.iload_n 0, 1) := by decide +kernel
theorem d10_1 : decode jdk_29_method_69_code 1 = .ok (.iload_n 1, 1) := by decide +kernel
theorem d10_2 : decode jdk_29_method_69_code 2 = .ok (.if_icmp .gt 7, 3) := by decide +kernel
theorem d10_5 : decode jdk_29_method_69_code 5 = .ok (.iload_n 0, 1) := by decide +kernel
theorem d10_6 : decode jdk_29_method_69_code 6 = .ok (.goto 4, 3) := by decide +kernel
theorem d10_9 : decode jdk_29_method_69_code 9 = .ok (.iload_n 1, 1) := by decide +kernel
theorem d10_10 : decode jdk_29_method_69_code 10 = .ok (.ireturn, 1) := by decide +kernel
theorem pl_10 : plainFor y_10 = true := Jvm.Free.JP.mathPlain rfl (by decide +kernel)
theorem pd_10 : parseMethodDescriptor "(II)I" = some ⟨[.int, .int], some .int⟩ := by decide +kernel
abbrev y_11 : MethodName := ⟨"com/example/remint/remint/BlockLayout", "blockOf", "(II)I"⟩
theorem d11_0 : decode prog_1_method_6_code 0 = .ok (.iload_n 2, 1) := by decide +kernel
theorem d11_1 : decode prog_1_method_6_code 1 = .ok (.aload_n 0, 1) := by decide +kernel
theorem d11_2 : decode prog_1_method_6_code 2 = .ok (.getfield 11, 3) := by decide +kernel
theorem d11_5 : decode prog_1_method_6_code 5 = .ok (.aload_n 0, 1) := by decide +kernel
theorem d11_6 : decode prog_1_method_6_code 6 = .ok (.getfield 23, 3) := by decide +kernel
theorem d11_9 : decode prog_1_method_6_code 9 = .ok (.iload_n 1, 1) := by decide +kernel
theorem d11_10 : decode prog_1_method_6_code 10 = .ok (.iaload, 1) := by decide +kernel
theorem d11_11 : decode prog_1_method_6_code 11 = .ok (.isub, 1) := by decide +kernel
theorem d11_12 : decode prog_1_method_6_code 12 = .ok (.iushr, 1) := by decide +kernel
theorem d11_13 : decode prog_1_method_6_code 13 = .ok (.ireturn, 1) := by decide +kernel
theorem pl_11 : plainFor y_11 = true := plainFor_of_name (by first | (simp [plainName, overriddenIn]; done) | decide +kernel)
theorem pd_11 : parseMethodDescriptor "(II)I" = some ⟨[.int, .int], some .int⟩ := by decide +kernel
def LQ : Option Value → Hp → Prop := fun v _ => v = some (.int 1)
theorem own_addN (m n : Nat) : m.toInt32 + n.toInt32 = (m + n).toInt32 := (Int32.ofNat_add m n).symm
theorem own_subN {m n : Nat} (h : n ≤ m) (hm : m < 2147483648) : m.toInt32 - n.toInt32 = (m - n).toInt32 := by
  apply Int32.toInt_inj.mp
  have s := c_isub m.toInt32 n.toInt32
  have r := rng32 (m.toInt32 - n.toInt32)
  rw [(own_nat hm).2.2, (own_nat (by omega)).2.2] at s
  rw [(own_nat (m := m - n) (by omega)).2.2]
  omega
theorem own_modN {m n : Nat} (hm : m < 2147483648) (hn : n < 2147483648) : m.toInt32 % n.toInt32 = (m % n).toInt32 := by
  have : m % n ≤ m := Nat.mod_le m n
  apply Int32.toInt_inj.mp
  rw [Int32.toInt_mod, (own_nat hm).2.2, (own_nat hn).2.2, (own_nat (by omega)).2.2, Int.tmod_eq_emod_of_nonneg (by omega)]
  rfl
theorem own_inj {m n : Nat} (h : m < 2147483648) (h' : n < 2147483648) : m.toInt32 = n.toInt32 ↔ m = n := ⟨fun e => by have := congrArg Int32.toInt e; rw [(own_nat h).2.2, (own_nat h').2.2] at this; omega, fun e => by rw [e]⟩
theorem own_ne0 {n : Nat} (h : 0 < n) (h' : n < 2147483648) : n.toInt32 ≠ 0 := fun e => by
  have := (own_inj h' (by decide : 0 < 2147483648)).mp e
  omega
def fv (h B i : Nat) : Nat := max 1 (h - 6 - 6 * (B - 1 - i))
theorem own_set_get {l : List Int32} {m i : Nat} {x : Int32} {f : Nat → Int32} (h : ∀ j, j < m → l[j]? = some (f j)) (hm : m < l.length) (hx : x = f m) (hi : i < m + 1) : (l.set m x)[i]? = some (f i) := by
  rcases Nat.lt_or_ge i m with lt | ge
  · rw [List.getElem?_set_ne (by omega)]; exact h i lt
  · have : i = m := by omega
    subst this; rw [List.getElem?_set_self hm, hx]
theorem getD_someI {ws : List Int32} {i : Nat} (h : i < ws.length) : ws[i]? = some (ws.getD i 0) := by
  rw [List.getD_eq_getElem?_getD, List.getElem?_eq_getElem h]; rfl
set_option maxRecDepth 65536 in
set_option maxHeartbeats 40000000 in
theorem met_max {Z : State} (HT : Tb Z) {F : Hp} (a b : Int32)  : Met Z y_4 jdk_29_method_65_code 2 (some .int) ({ frames := 0, cells := 0, slots := 0, locals := 0 } : Room) [(.int a), (.int b)] (F) (fun v M' => ∃ r : Int32, r.toInt = max a.toInt b.toInt ∧ v = some (.int r) ∧ M' = F) := by
  refine Met.of HT pl_4 (Ls := #[.val (.int a), .val (.int b)]) (fun m => by first | (simp [entryFrame, mkF, argsToLocals, Value.category]; done) | rfl) (fun k H => ?_)
  refine s_iloadn H d4_0 rfl (pc' := 1) rfl ?_
  refine s_iloadn H d4_1 rfl (pc' := 2) rfl ?_
  refine s_icmp H d4_2 (py := 9) (pc' := 5) q_lt (by decide) rfl (fun c2 => ?_) (fun c2 => ?_)
  · refine s_iloadn H d4_9 rfl (pc' := 10) rfl ?_
    exact s_iret H d4_10 rfl (Or.inl rfl) (by decide) (by decide) (⟨b, by rw [Int32.lt_iff_toInt_lt] at c2; omega, rfl, rfl⟩)
  · refine s_iloadn H d4_5 rfl (pc' := 6) rfl ?_
    refine s_goto H d4_6 (pc' := 10) (by decide) ?_
    exact s_iret H d4_10 rfl (Or.inl rfl) (by decide) (by decide) (⟨a, by rw [Int32.lt_iff_toInt_lt] at c2; omega, rfl, rfl⟩)
set_option maxRecDepth 65536 in
set_option maxHeartbeats 40000000 in
theorem met_min {Z : State} (HT : Tb Z) {F : Hp} (a b : Int32)  : Met Z y_10 jdk_29_method_69_code 2 (some .int) ({ frames := 0, cells := 0, slots := 0, locals := 0 } : Room) [(.int a), (.int b)] (F) (fun v M' => ∃ r : Int32, r.toInt = min a.toInt b.toInt ∧ v = some (.int r) ∧ M' = F) := by
  refine Met.of HT pl_10 (Ls := #[.val (.int a), .val (.int b)]) (fun m => by first | (simp [entryFrame, mkF, argsToLocals, Value.category]; done) | rfl) (fun k H => ?_)
  refine s_iloadn H d10_0 rfl (pc' := 1) rfl ?_
  refine s_iloadn H d10_1 rfl (pc' := 2) rfl ?_
  refine s_icmp H d10_2 (py := 9) (pc' := 5) q_gt (by decide) rfl (fun c2 => ?_) (fun c2 => ?_)
  · refine s_iloadn H d10_9 rfl (pc' := 10) rfl ?_
    exact s_iret H d10_10 rfl (Or.inl rfl) (by decide) (by decide) (⟨b, by rw [Int32.lt_iff_toInt_lt] at c2; omega, rfl, rfl⟩)
  · refine s_iloadn H d10_5 rfl (pc' := 6) rfl ?_
    refine s_goto H d10_6 (pc' := 10) (by decide) ?_
    exact s_iret H d10_10 rfl (Or.inl rfl) (by decide) (by decide) (⟨a, by rw [Int32.lt_iff_toInt_lt] at c2; omega, rfl, rfl⟩)
set_option maxRecDepth 65536 in
set_option maxHeartbeats 40000000 in
theorem met_bc {Z : State} (HT : Tb Z) {F : Hp} (bl fa da ba : Addr) (fl dl : List Int32) (al : List Int64) (h : Int32) (x : Int64) (m : Nat) (hf : m < fl.length) (hd : m < dl.length) (h4 : fl.length ≤ 4 ∧ dl.length ≤ 4) : Met Z y_5 prog_1_method_11_code 2 (some .int) ({ frames := 0, cells := 0, slots := 0, locals := 0 } : Room) [(.ref bl), (.int m.toInt32)] ((ba, ArL Z al) :: (da, ArI Z .int dl) :: (fa, ArI Z .int fl) :: (bl, Obj Z "com/example/remint/remint/BlockLayout" [("com/example/remint/remint/BlockLayout", "height", "I", (.int h)), ("com/example/remint/remint/BlockLayout", "firstDepth", "[I", (.ref fa)), ("com/example/remint/remint/BlockLayout", "depths", "[I", (.ref da)), ("com/example/remint/remint/BlockLayout", "bandAt", "[J", (.ref ba)), ("com/example/remint/remint/BlockLayout", "bytes", "J", (.long x))]) :: F) (fun v M' => ∃ z : Int32, v = some (.int z) ∧ M' = ((ba, ArL Z al) :: (da, ArI Z .int dl) :: (fa, ArI Z .int fl) :: (bl, Obj Z "com/example/remint/remint/BlockLayout" [("com/example/remint/remint/BlockLayout", "height", "I", (.int h)), ("com/example/remint/remint/BlockLayout", "firstDepth", "[I", (.ref fa)), ("com/example/remint/remint/BlockLayout", "depths", "[I", (.ref da)), ("com/example/remint/remint/BlockLayout", "bandAt", "[J", (.ref ba)), ("com/example/remint/remint/BlockLayout", "bytes", "J", (.long x))]) :: F)) := by
  refine Met.of HT pl_5 (Ls := #[.val (.ref bl), .val (.int m.toInt32)]) (fun m => by first | (simp [entryFrame, mkF, argsToLocals, Value.category]; done) | rfl) (fun k H => ?_)
  refine s_iconst H d5_0 (z := (1 : Int32)) (by decide) (pc' := 1) rfl ?_
  refine s_aloadn H d5_1 rfl rfl (pc' := 2) rfl ?_
  refine s_getf H d5_2 (mem (i := 21) rfl) (i := 3) (j := 1) rfl rfl (pc' := 5) rfl ?_
  refine s_iloadn H d5_5 rfl (pc' := 6) rfl ?_
  refine s_iaload H d5_6 (i := 2) rfl (x := (fl.getD m 0)) (own_nat (by omega)).2.1 (jn := m) (own_nat (by omega)).1 (getD_someI (by omega)) (pc' := 7) rfl ?_
  refine s_iconst H d5_7 (z := (1 : Int32)) (by decide) (pc' := 8) rfl ?_
  refine s_isub H d5_8 (pc' := 9) rfl ?_
  refine s_ishl H d5_9 (pc' := 10) rfl ?_
  exact s_iret H d5_10 rfl (Or.inl rfl) (by decide) (by decide) (⟨_, rfl, rfl⟩)
set_option maxRecDepth 65536 in
set_option maxHeartbeats 40000000 in
theorem met_va {Z : State} (HT : Tb Z) {F : Hp} (bl fa da ba : Addr) (fl dl : List Int32) (al : List Int64) (h : Int32) (x : Int64) (m : Nat) (hf : m < fl.length) (hd : m < dl.length) (h4 : fl.length ≤ 4 ∧ dl.length ≤ 4) : Met Z y_7 prog_1_method_12_code 2 (some .int) ({ frames := 0, cells := 0, slots := 0, locals := 0 } : Room) [(.ref bl), (.int m.toInt32)] ((ba, ArL Z al) :: (da, ArI Z .int dl) :: (fa, ArI Z .int fl) :: (bl, Obj Z "com/example/remint/remint/BlockLayout" [("com/example/remint/remint/BlockLayout", "height", "I", (.int h)), ("com/example/remint/remint/BlockLayout", "firstDepth", "[I", (.ref fa)), ("com/example/remint/remint/BlockLayout", "depths", "[I", (.ref da)), ("com/example/remint/remint/BlockLayout", "bandAt", "[J", (.ref ba)), ("com/example/remint/remint/BlockLayout", "bytes", "J", (.long x))]) :: F) (fun v M' => ∃ z : Int32, v = some (.int z) ∧ M' = ((ba, ArL Z al) :: (da, ArI Z .int dl) :: (fa, ArI Z .int fl) :: (bl, Obj Z "com/example/remint/remint/BlockLayout" [("com/example/remint/remint/BlockLayout", "height", "I", (.int h)), ("com/example/remint/remint/BlockLayout", "firstDepth", "[I", (.ref fa)), ("com/example/remint/remint/BlockLayout", "depths", "[I", (.ref da)), ("com/example/remint/remint/BlockLayout", "bandAt", "[J", (.ref ba)), ("com/example/remint/remint/BlockLayout", "bytes", "J", (.long x))]) :: F)) := by
  refine Met.of HT pl_7 (Ls := #[.val (.ref bl), .val (.int m.toInt32)]) (fun m => by first | (simp [entryFrame, mkF, argsToLocals, Value.category]; done) | rfl) (fun k H => ?_)
  refine s_iconst H d7_0 (z := (2 : Int32)) (by decide) (pc' := 1) rfl ?_
  refine s_aloadn H d7_1 rfl rfl (pc' := 2) rfl ?_
  refine s_getf H d7_2 (mem (i := 23) rfl) (i := 3) (j := 2) rfl rfl (pc' := 5) rfl ?_
  refine s_iloadn H d7_5 rfl (pc' := 6) rfl ?_
  refine s_iaload H d7_6 (i := 1) rfl (x := (dl.getD m 0)) (own_nat (by omega)).2.1 (jn := m) (own_nat (by omega)).1 (getD_someI (by omega)) (pc' := 7) rfl ?_
  refine s_ishl H d7_7 (pc' := 8) rfl ?_
  refine s_iconst H d7_8 (z := (2 : Int32)) (by decide) (pc' := 9) rfl ?_
  refine s_isub H d7_9 (pc' := 10) rfl ?_
  exact s_iret H d7_10 rfl (Or.inl rfl) (by decide) (by decide) (⟨_, rfl, rfl⟩)
set_option maxRecDepth 65536 in
set_option maxHeartbeats 40000000 in
theorem met_bn {Z : State} (HT : Tb Z) {F : Hp} (bl fa da ba : Addr) (fl dl : List Int32) (al : List Int64) (h : Int32) (x : Int64)  : Met Z y_9 prog_1_method_3_code 1 (some .int) ({ frames := 0, cells := 0, slots := 0, locals := 0 } : Room) [(.ref bl)] ((ba, ArL Z al) :: (da, ArI Z .int dl) :: (fa, ArI Z .int fl) :: (bl, Obj Z "com/example/remint/remint/BlockLayout" [("com/example/remint/remint/BlockLayout", "height", "I", (.int h)), ("com/example/remint/remint/BlockLayout", "firstDepth", "[I", (.ref fa)), ("com/example/remint/remint/BlockLayout", "depths", "[I", (.ref da)), ("com/example/remint/remint/BlockLayout", "bandAt", "[J", (.ref ba)), ("com/example/remint/remint/BlockLayout", "bytes", "J", (.long x))]) :: F) (fun v M' => v = some (.int fl.length.toInt32) ∧ M' = ((ba, ArL Z al) :: (da, ArI Z .int dl) :: (fa, ArI Z .int fl) :: (bl, Obj Z "com/example/remint/remint/BlockLayout" [("com/example/remint/remint/BlockLayout", "height", "I", (.int h)), ("com/example/remint/remint/BlockLayout", "firstDepth", "[I", (.ref fa)), ("com/example/remint/remint/BlockLayout", "depths", "[I", (.ref da)), ("com/example/remint/remint/BlockLayout", "bandAt", "[J", (.ref ba)), ("com/example/remint/remint/BlockLayout", "bytes", "J", (.long x))]) :: F)) := by
  refine Met.of HT pl_9 (Ls := #[.val (.ref bl)]) (fun m => by first | (simp [entryFrame, mkF, argsToLocals, Value.category]; done) | rfl) (fun k H => ?_)
  refine s_aloadn H d9_0 rfl rfl (pc' := 1) rfl ?_
  refine s_getf H d9_1 (mem (i := 21) rfl) (i := 3) (j := 1) rfl rfl (pc' := 4) rfl ?_
  refine s_alenI H d9_4 (i := 2) rfl (z := fl.length.toInt32) rfl (pc' := 5) rfl ?_
  exact s_iret H d9_5 rfl (Or.inl rfl) (by decide) (by decide) (⟨rfl, rfl⟩)
set_option maxRecDepth 65536 in
set_option maxHeartbeats 40000000 in
theorem met_bo {Z : State} (HT : Tb Z) {F : Hp} (bl fa da ba : Addr) (fl dl : List Int32) (al : List Int64) (h : Int32) (x : Int64) (m : Nat) (hf : m < fl.length) (hd : m < dl.length) (h4 : fl.length ≤ 4 ∧ dl.length ≤ 4) : Met Z y_8 prog_1_method_13_code 2 (some .int) ({ frames := 1, cells := 0, slots := 0, locals := 13 } : Room) [(.ref bl), (.int m.toInt32)] ((ba, ArL Z al) :: (da, ArI Z .int dl) :: (fa, ArI Z .int fl) :: (bl, Obj Z "com/example/remint/remint/BlockLayout" [("com/example/remint/remint/BlockLayout", "height", "I", (.int h)), ("com/example/remint/remint/BlockLayout", "firstDepth", "[I", (.ref fa)), ("com/example/remint/remint/BlockLayout", "depths", "[I", (.ref da)), ("com/example/remint/remint/BlockLayout", "bandAt", "[J", (.ref ba)), ("com/example/remint/remint/BlockLayout", "bytes", "J", (.long x))]) :: F) (fun v M' => ∃ z : Int32, v = some (.int z) ∧ M' = ((ba, ArL Z al) :: (da, ArI Z .int dl) :: (fa, ArI Z .int fl) :: (bl, Obj Z "com/example/remint/remint/BlockLayout" [("com/example/remint/remint/BlockLayout", "height", "I", (.int h)), ("com/example/remint/remint/BlockLayout", "firstDepth", "[I", (.ref fa)), ("com/example/remint/remint/BlockLayout", "depths", "[I", (.ref da)), ("com/example/remint/remint/BlockLayout", "bandAt", "[J", (.ref ba)), ("com/example/remint/remint/BlockLayout", "bytes", "J", (.long x))]) :: F)) := by
  refine Met.of HT pl_8 (Ls := #[.val (.ref bl), .val (.int m.toInt32)]) (fun m => by first | (simp [entryFrame, mkF, argsToLocals, Value.category]; done) | rfl) (fun k H => ?_)
  refine s_iloadn H d8_0 rfl (pc' := 1) rfl ?_
  refine s_aloadn H d8_1 rfl rfl (pc' := 2) rfl ?_
  refine s_virtual H (met_bn H.tb bl fa da ba fl dl al h x) d8_2 (i := 3) rfl (mem (i := 46) rfl) (mem (i := 47) rfl) (mem (i := 49) rfl) (mem (i := 48) rfl) (mem (i := 7) rfl) (mem (i := 50) rfl) (by decide) pd_9 rfl (rest := [(.int m.toInt32)]) rfl rfl (by decide) (Nat.le_of_ble_eq_true rfl) (cn' := 0) (sn' := 0) rfl rfl (by decide) (by decide) (pc' := 5) rfl (fun _ _ hq => ?_)
  obtain ⟨rfl, rfl⟩ := hq
  show Go Z k 0 0 ((ba, ArL Z al) :: (da, ArI Z .int dl) :: (fa, ArI Z .int fl) :: (bl, Obj Z "com/example/remint/remint/BlockLayout" [("com/example/remint/remint/BlockLayout", "height", "I", (.int h)), ("com/example/remint/remint/BlockLayout", "firstDepth", "[I", (.ref fa)), ("com/example/remint/remint/BlockLayout", "depths", "[I", (.ref da)), ("com/example/remint/remint/BlockLayout", "bandAt", "[J", (.ref ba)), ("com/example/remint/remint/BlockLayout", "bytes", "J", (.long x))]) :: F) 5 #[.val (.ref bl), .val (.int m.toInt32)] [(.int fl.length.toInt32), (.int m.toInt32)]
  refine s_iconst H d8_5 (z := (1 : Int32)) (by decide) (pc' := 6) rfl ?_
  refine s_isub H d8_6 (pc' := 7) rfl ?_
  refine s_icmp H d8_7 (py := 23) (pc' := 10) q_ne (by decide) rfl (fun c7 => ?_) (fun c7 => ?_)
  · refine s_iconst H d8_23 (z := (0 : Int32)) (by decide) (pc' := 24) rfl ?_
    exact s_iret H d8_24 rfl (Or.inl rfl) (by decide) (by decide) (⟨_, rfl, rfl⟩)
  · refine s_iconst H d8_10 (z := (1 : Int32)) (by decide) (pc' := 11) rfl ?_
    refine s_aloadn H d8_11 rfl rfl (pc' := 12) rfl ?_
    refine s_getf H d8_12 (mem (i := 23) rfl) (i := 3) (j := 2) rfl rfl (pc' := 15) rfl ?_
    refine s_iloadn H d8_15 rfl (pc' := 16) rfl ?_
    refine s_iaload H d8_16 (i := 1) rfl (x := (dl.getD m 0)) (own_nat (by omega)).2.1 (jn := m) (own_nat (by omega)).1 (getD_someI (by omega)) (pc' := 17) rfl ?_
    refine s_ishl H d8_17 (pc' := 18) rfl ?_
    refine s_iconst H d8_18 (z := (1 : Int32)) (by decide) (pc' := 19) rfl ?_
    refine s_iadd H d8_19 (pc' := 20) rfl ?_
    refine s_goto H d8_20 (pc' := 24) (by decide) ?_
    exact s_iret H d8_24 rfl (Or.inl rfl) (by decide) (by decide) (⟨_, rfl, rfl⟩)
set_option maxRecDepth 65536 in
set_option maxHeartbeats 40000000 in
theorem met_bb {Z : State} (HT : Tb Z) {F : Hp} (bl fa da ba : Addr) (fl dl : List Int32) (al : List Int64) (h : Int32) (x : Int64) (m : Nat) (hf : m < fl.length) (hd : m < dl.length) (h4 : fl.length ≤ 4 ∧ dl.length ≤ 4) : Met Z y_6 prog_1_method_4_code 2 (some .int) ({ frames := 2, cells := 0, slots := 0, locals := 27 } : Room) [(.ref bl), (.int m.toInt32)] ((ba, ArL Z al) :: (da, ArI Z .int dl) :: (fa, ArI Z .int fl) :: (bl, Obj Z "com/example/remint/remint/BlockLayout" [("com/example/remint/remint/BlockLayout", "height", "I", (.int h)), ("com/example/remint/remint/BlockLayout", "firstDepth", "[I", (.ref fa)), ("com/example/remint/remint/BlockLayout", "depths", "[I", (.ref da)), ("com/example/remint/remint/BlockLayout", "bandAt", "[J", (.ref ba)), ("com/example/remint/remint/BlockLayout", "bytes", "J", (.long x))]) :: F) (fun v M' => ∃ z : Int32, v = some (.int z) ∧ M' = ((ba, ArL Z al) :: (da, ArI Z .int dl) :: (fa, ArI Z .int fl) :: (bl, Obj Z "com/example/remint/remint/BlockLayout" [("com/example/remint/remint/BlockLayout", "height", "I", (.int h)), ("com/example/remint/remint/BlockLayout", "firstDepth", "[I", (.ref fa)), ("com/example/remint/remint/BlockLayout", "depths", "[I", (.ref da)), ("com/example/remint/remint/BlockLayout", "bandAt", "[J", (.ref ba)), ("com/example/remint/remint/BlockLayout", "bytes", "J", (.long x))]) :: F)) := by
  refine Met.of HT pl_6 (Ls := #[.val (.ref bl), .val (.int m.toInt32)]) (fun m => by first | (simp [entryFrame, mkF, argsToLocals, Value.category]; done) | rfl) (fun k H => ?_)
  refine s_aloadn H d6_0 rfl rfl (pc' := 1) rfl ?_
  refine s_iloadn H d6_1 rfl (pc' := 2) rfl ?_
  refine s_priv H (met_va H.tb bl fa da ba fl dl al h x m hf hd h4) d6_2 (i := 3) rfl (mem (i := 38) rfl) (mem (i := 40) rfl) (mem (i := 36) rfl) rfl (mem (i := 39) rfl) (mem (i := 7) rfl) (mem (i := 41) rfl) (by decide) pd_7 rfl (rest := []) rfl rfl (by decide) (Nat.le_of_ble_eq_true rfl) (cn' := 0) (sn' := 0) rfl rfl (by decide) (by decide) (pc' := 5) rfl (fun _ _ hq => ?_)
  obtain ⟨z1, rfl, rfl⟩ := hq
  show Go Z k 0 0 ((ba, ArL Z al) :: (da, ArI Z .int dl) :: (fa, ArI Z .int fl) :: (bl, Obj Z "com/example/remint/remint/BlockLayout" [("com/example/remint/remint/BlockLayout", "height", "I", (.int h)), ("com/example/remint/remint/BlockLayout", "firstDepth", "[I", (.ref fa)), ("com/example/remint/remint/BlockLayout", "depths", "[I", (.ref da)), ("com/example/remint/remint/BlockLayout", "bandAt", "[J", (.ref ba)), ("com/example/remint/remint/BlockLayout", "bytes", "J", (.long x))]) :: F) 5 #[.val (.ref bl), .val (.int m.toInt32)] [(.int z1)]
  refine s_bipush H d6_5 (z := (32 : Int32)) (by decide) (pc' := 7) rfl ?_
  refine s_imul H d6_7 (pc' := 8) rfl ?_
  refine s_aloadn H d6_8 rfl rfl (pc' := 9) rfl ?_
  refine s_iloadn H d6_9 rfl (pc' := 10) rfl ?_
  refine s_priv H (met_bo H.tb bl fa da ba fl dl al h x m hf hd h4) d6_10 (i := 3) rfl (mem (i := 42) rfl) (mem (i := 44) rfl) (mem (i := 36) rfl) rfl (mem (i := 43) rfl) (mem (i := 7) rfl) (mem (i := 45) rfl) (by decide) pd_8 rfl (rest := [(.int (z1 * (32 : Int32)))]) rfl rfl (by decide) (Nat.le_of_ble_eq_true rfl) (cn' := 0) (sn' := 0) rfl rfl (by decide) (by decide) (pc' := 13) rfl (fun _ _ hq => ?_)
  obtain ⟨z2, rfl, rfl⟩ := hq
  show Go Z k 0 0 ((ba, ArL Z al) :: (da, ArI Z .int dl) :: (fa, ArI Z .int fl) :: (bl, Obj Z "com/example/remint/remint/BlockLayout" [("com/example/remint/remint/BlockLayout", "height", "I", (.int h)), ("com/example/remint/remint/BlockLayout", "firstDepth", "[I", (.ref fa)), ("com/example/remint/remint/BlockLayout", "depths", "[I", (.ref da)), ("com/example/remint/remint/BlockLayout", "bandAt", "[J", (.ref ba)), ("com/example/remint/remint/BlockLayout", "bytes", "J", (.long x))]) :: F) 13 #[.val (.ref bl), .val (.int m.toInt32)] [(.int z2), (.int (z1 * (32 : Int32)))]
  refine s_iconst H d6_13 (z := (4 : Int32)) (by decide) (pc' := 14) rfl ?_
  refine s_imul H d6_14 (pc' := 15) rfl ?_
  refine s_iadd H d6_15 (pc' := 16) rfl ?_
  exact s_iret H d6_16 rfl (Or.inl rfl) (by decide) (by decide) (⟨_, rfl, rfl⟩)
set_option maxRecDepth 65536 in
set_option maxHeartbeats 40000000 in
theorem i_loop {Z : State} {k : Cx} {F : Hp} {bl fa da ba : Addr} {hN B : Nat} (d m : Nat) (fl dl : List Int32) (al : List Int64) (at0 : Int64) (l6 : Int32) (H : Ok Z k ({ frames := 3, cells := 3, slots := 12, locals := 44 } : Room) (fun v M' => ∃ (fa da ba : Addr) (fl dl : List Int32) (al : List Int64) (x : Int64), fl.length = B ∧ (∀ i, i < B → fl[i]? = some (fv hN B i).toInt32) ∧ v = none ∧ M' = ((ba, ArL Z al) :: (da, ArI Z .int dl) :: (fa, ArI Z .int fl) :: (bl, Obj Z "com/example/remint/remint/BlockLayout" [("com/example/remint/remint/BlockLayout", "height", "I", (.int hN.toInt32)), ("com/example/remint/remint/BlockLayout", "firstDepth", "[I", (.ref fa)), ("com/example/remint/remint/BlockLayout", "depths", "[I", (.ref da)), ("com/example/remint/remint/BlockLayout", "bandAt", "[J", (.ref ba)), ("com/example/remint/remint/BlockLayout", "bytes", "J", (.long x))]) :: F)) y_2 prog_1_method_1_code 7 none) (lf : fl.length = B) (ld : dl.length = B) (la : al.length = B) (pf : ∀ i, i < m → fl[i]? = some (fv hN B i).toInt32) (hB : 6 * (B - 1) ≤ hN - 1) (hB4 : B ≤ 4) (hB1 : 1 ≤ B) (hh : hN ≤ 25) (hh1 : 1 ≤ hN) (hm : m + d = B) : Go Z k 3 12 ((ba, ArL Z al) :: (da, ArI Z .int dl) :: (fa, ArI Z .int fl) :: (bl, Obj Z "com/example/remint/remint/BlockLayout" [("com/example/remint/remint/BlockLayout", "height", "I", (.int hN.toInt32)), ("com/example/remint/remint/BlockLayout", "firstDepth", "[I", (.ref fa)), ("com/example/remint/remint/BlockLayout", "depths", "[I", (.ref da)), ("com/example/remint/remint/BlockLayout", "bandAt", "[J", (.ref ba)), ("com/example/remint/remint/BlockLayout", "bytes", "J", (.long (0 : Int64)))]) :: F) 53 #[.val (.ref bl), .val (.int hN.toInt32), .val (.int B.toInt32), .val (.long at0), .second, .val (.int m.toInt32), .val (.int l6)] [] := by
  induction d generalizing m fl dl al at0 l6 with
  | zero =>
    refine s_iload H d2_53 rfl (pc' := 55) rfl ?_
    refine s_iloadn H d2_55 rfl (pc' := 56) rfl ?_
    refine s_icmp H d2_56 (py := 143) (pc' := 59) q_ge (by decide) rfl (fun c56 => ?_) (fun c56 => ?_)
    · refine s_aloadn H d2_143 rfl rfl (pc' := 144) rfl ?_
      refine s_lloadn H d2_144 rfl (pc' := 145) rfl ?_
      refine s_putf H d2_145 (mem (i := 51) rfl) (Or.inr ⟨(mem (i := 52) rfl), rfl, rfl⟩) (mem (i := 6) rfl) (ty := .long) (by decide) rfl rfl (i := 3) (j := 4) rfl rfl (pc' := 148) rfl ?_
      show Go Z k 3 12 ((ba, ArL Z al) :: (da, ArI Z .int dl) :: (fa, ArI Z .int fl) :: (bl, Obj Z "com/example/remint/remint/BlockLayout" [("com/example/remint/remint/BlockLayout", "height", "I", (.int hN.toInt32)), ("com/example/remint/remint/BlockLayout", "firstDepth", "[I", (.ref fa)), ("com/example/remint/remint/BlockLayout", "depths", "[I", (.ref da)), ("com/example/remint/remint/BlockLayout", "bandAt", "[J", (.ref ba)), ("com/example/remint/remint/BlockLayout", "bytes", "J", (.long at0))]) :: F) 148 #[.val (.ref bl), .val (.int hN.toInt32), .val (.int B.toInt32), .val (.long at0), .second, .val (.int m.toInt32), .val (.int l6)] []
      exact s_vret H d2_148 (by decide) (by decide) (⟨fa, da, ba, fl, dl, al, _, lf, fun i hi => pf i (by omega), rfl, rfl⟩)
    · exact absurd ((own_le (by omega) (by omega)).mpr (by omega)) c56
  | succ d ih =>
    refine s_iload H d2_53 rfl (pc' := 55) rfl ?_
    refine s_iloadn H d2_55 rfl (pc' := 56) rfl ?_
    refine s_icmp H d2_56 (py := 143) (pc' := 59) q_ge (by decide) rfl (fun c56 => ?_) (fun c56 => ?_)
    · exact absurd ((own_le (by omega) (by omega)).mp c56) (by omega)
    · refine s_iloadn H d2_59 rfl (pc' := 60) rfl ?_
      refine s_iconst H d2_60 (z := (1 : Int32)) (by decide) (pc' := 61) rfl ?_
      refine s_isub H d2_61 (pc' := 62) rfl ?_
      refine s_bipush H d2_62 (z := (6 : Int32)) (by decide) (pc' := 64) rfl ?_
      refine s_iloadn H d2_64 rfl (pc' := 65) rfl ?_
      refine s_iconst H d2_65 (z := (1 : Int32)) (by decide) (pc' := 66) rfl ?_
      have e1 : B.toInt32 - 1 = (B - 1).toInt32 := own_subN (n := 1) (by omega) (by omega)
      have e2 : (B - 1).toInt32 - m.toInt32 = (B - 1 - m).toInt32 := own_subN (by omega) (by omega)
      have e3 : (6 : Int32) * (B - 1 - m).toInt32 = (6 * (B - 1 - m)).toInt32 := (Int32.ofNat_mul 6 (B - 1 - m)).symm
      have e4 : hN.toInt32 - 1 = (hN - 1).toInt32 := own_subN (n := 1) (by omega) (by omega)
      have e5 : (hN - 1).toInt32 - (6 * (B - 1 - m)).toInt32 = (hN - 1 - 6 * (B - 1 - m)).toInt32 := own_subN (by omega) (by omega)
      refine s_isub H d2_66 (pc' := 67) rfl ?_
      rw [e1]
      refine s_iload H d2_67 rfl (pc' := 69) rfl ?_
      refine s_isub H d2_69 (pc' := 70) rfl ?_
      rw [e2]
      refine s_imul H d2_70 (pc' := 71) rfl ?_
      rw [e3]
      refine s_isub H d2_71 (pc' := 72) rfl ?_
      rw [e4, e5]
      refine s_istore H d2_72 (L' := fun z => #[.val (.ref bl), .val (.int hN.toInt32), .val (.int B.toInt32), .val (.long at0), .second, .val (.int m.toInt32), .val (.int z)]) (fun _ => rfl) (pc' := 74) rfl (fun z0 hz => ?_)
      subst z0
      refine s_aloadn H d2_74 rfl rfl (pc' := 75) rfl ?_
      refine s_getf H d2_75 (mem (i := 21) rfl) (i := 3) (j := 1) rfl rfl (pc' := 78) rfl ?_
      refine s_iload H d2_78 rfl (pc' := 80) rfl ?_
      refine s_iconst H d2_80 (z := (1 : Int32)) (by decide) (pc' := 81) rfl ?_
      refine s_iload H d2_81 rfl (pc' := 83) rfl ?_
      refine s_bipush H d2_83 (z := (6 : Int32)) (by decide) (pc' := 85) rfl ?_
      refine s_isub H d2_85 (pc' := 86) rfl ?_
      refine s_iconst H d2_86 (z := (1 : Int32)) (by decide) (pc' := 87) rfl ?_
      refine s_iadd H d2_87 (pc' := 88) rfl ?_
      refine s_static H (met_max H.tb (1 : Int32) (((hN - 1 - 6 * (B - 1 - m)).toInt32 - (6 : Int32)) + (1 : Int32))) d2_88 (mem (i := 16) rfl) (mem (i := 17) rfl) (mem (i := 18) rfl) (mem (i := 19) rfl) (by decide) pd_4 rfl (rest := [(.int m.toInt32), (.ref fa)]) rfl rfl (by decide) (Nat.le_of_ble_eq_true rfl) (cn' := 3) (sn' := 12) rfl rfl (by decide) (by decide) (pc' := 91) rfl (fun _ _ hq => ?_)
      obtain ⟨r1, hr1, rfl, rfl⟩ := hq
      show Go Z k 3 12 ((ba, ArL Z al) :: (da, ArI Z .int dl) :: (fa, ArI Z .int fl) :: (bl, Obj Z "com/example/remint/remint/BlockLayout" [("com/example/remint/remint/BlockLayout", "height", "I", (.int hN.toInt32)), ("com/example/remint/remint/BlockLayout", "firstDepth", "[I", (.ref fa)), ("com/example/remint/remint/BlockLayout", "depths", "[I", (.ref da)), ("com/example/remint/remint/BlockLayout", "bandAt", "[J", (.ref ba)), ("com/example/remint/remint/BlockLayout", "bytes", "J", (.long (0 : Int64)))]) :: F) 91 #[.val (.ref bl), .val (.int hN.toInt32), .val (.int B.toInt32), .val (.long at0), .second, .val (.int m.toInt32), .val (.int (hN - 1 - 6 * (B - 1 - m)).toInt32)] [(.int r1), (.int m.toInt32), (.ref fa)]
      have em : r1 = (fv hN B m).toInt32 := by
        apply Int32.toInt_inj.mp
        have s1 := c_isub (hN - 1 - 6 * (B - 1 - m)).toInt32 6
        have s2 := c_iadd ((hN - 1 - 6 * (B - 1 - m)).toInt32 - 6) 1
        have w1 := rng32 ((hN - 1 - 6 * (B - 1 - m)).toInt32 - 6)
        have w2 := rng32 ((hN - 1 - 6 * (B - 1 - m)).toInt32 - 6 + 1)
        rw [(own_nat (by omega)).2.2, show (6 : Int32).toInt = 6 from by decide] at s1
        rw [show (1 : Int32).toInt = 1 from by decide] at s2
        have fb : fv hN B m ≤ 25 := by unfold fv; omega
        rw [(own_nat (by omega)).2.2, hr1, show (1 : Int32).toInt = 1 from by decide]
        unfold fv; omega
      rw [em]
      show Go Z k 3 12 ((ba, ArL Z al) :: (da, ArI Z .int dl) :: (fa, ArI Z .int fl) :: (bl, Obj Z "com/example/remint/remint/BlockLayout" [("com/example/remint/remint/BlockLayout", "height", "I", (.int hN.toInt32)), ("com/example/remint/remint/BlockLayout", "firstDepth", "[I", (.ref fa)), ("com/example/remint/remint/BlockLayout", "depths", "[I", (.ref da)), ("com/example/remint/remint/BlockLayout", "bandAt", "[J", (.ref ba)), ("com/example/remint/remint/BlockLayout", "bytes", "J", (.long (0 : Int64)))]) :: F) 91 #[.val (.ref bl), .val (.int hN.toInt32), .val (.int B.toInt32), .val (.long at0), .second, .val (.int m.toInt32), .val (.int (hN - 1 - 6 * (B - 1 - m)).toInt32)] [(.int (fv hN B m).toInt32), (.int m.toInt32), (.ref fa)]
      refine s_iastore H d2_91 (i := 2) rfl (own_nat (by omega)).2.1 (jn := m) (own_nat (by omega)).1 (by omega) (pc' := 92) rfl ?_
      show Go Z k 3 12 ((ba, ArL Z al) :: (da, ArI Z .int dl) :: (fa, ArI Z .int (fl.set m (fv hN B m).toInt32)) :: (bl, Obj Z "com/example/remint/remint/BlockLayout" [("com/example/remint/remint/BlockLayout", "height", "I", (.int hN.toInt32)), ("com/example/remint/remint/BlockLayout", "firstDepth", "[I", (.ref fa)), ("com/example/remint/remint/BlockLayout", "depths", "[I", (.ref da)), ("com/example/remint/remint/BlockLayout", "bandAt", "[J", (.ref ba)), ("com/example/remint/remint/BlockLayout", "bytes", "J", (.long (0 : Int64)))]) :: F) 92 #[.val (.ref bl), .val (.int hN.toInt32), .val (.int B.toInt32), .val (.long at0), .second, .val (.int m.toInt32), .val (.int (hN - 1 - 6 * (B - 1 - m)).toInt32)] []
      obtain ⟨fl2, hfl, lf2, pf2⟩ : ∃ q : List Int32, q = (fl.set m (fv hN B m).toInt32) ∧ q.length = B ∧ ∀ i, i < m + 1 → q[i]? = some (fv hN B i).toInt32 := ⟨_, rfl, by simp only [List.length_set]; exact lf, fun i hi => own_set_get (f := fun i => (fv hN B i).toInt32) pf (by omega) rfl hi⟩
      rw [← hfl]
      clear hfl
      show Go Z k 3 12 ((ba, ArL Z al) :: (da, ArI Z .int dl) :: (fa, ArI Z .int fl2) :: (bl, Obj Z "com/example/remint/remint/BlockLayout" [("com/example/remint/remint/BlockLayout", "height", "I", (.int hN.toInt32)), ("com/example/remint/remint/BlockLayout", "firstDepth", "[I", (.ref fa)), ("com/example/remint/remint/BlockLayout", "depths", "[I", (.ref da)), ("com/example/remint/remint/BlockLayout", "bandAt", "[J", (.ref ba)), ("com/example/remint/remint/BlockLayout", "bytes", "J", (.long (0 : Int64)))]) :: F) 92 #[.val (.ref bl), .val (.int hN.toInt32), .val (.int B.toInt32), .val (.long at0), .second, .val (.int m.toInt32), .val (.int (hN - 1 - 6 * (B - 1 - m)).toInt32)] []
      refine s_aloadn H d2_92 rfl rfl (pc' := 93) rfl ?_
      refine s_getf H d2_93 (mem (i := 23) rfl) (i := 3) (j := 2) rfl rfl (pc' := 96) rfl ?_
      refine s_iload H d2_96 rfl (pc' := 98) rfl ?_
      refine s_iload H d2_98 rfl (pc' := 100) rfl ?_
      refine s_aloadn H d2_100 rfl rfl (pc' := 101) rfl ?_
      refine s_getf H d2_101 (mem (i := 21) rfl) (i := 3) (j := 1) rfl rfl (pc' := 104) rfl ?_
      refine s_iload H d2_104 rfl (pc' := 106) rfl ?_
      refine s_iaload H d2_106 (i := 2) rfl (x := (fv hN B m).toInt32) (own_nat (by omega)).2.1 (jn := m) (own_nat (by omega)).1 (pf2 m (by omega)) (pc' := 107) rfl ?_
      refine s_isub H d2_107 (pc' := 108) rfl ?_
      refine s_iconst H d2_108 (z := (1 : Int32)) (by decide) (pc' := 109) rfl ?_
      refine s_iadd H d2_109 (pc' := 110) rfl ?_
      refine s_iastore H d2_110 (i := 1) rfl (own_nat (by omega)).2.1 (jn := m) (own_nat (by omega)).1 (by omega) (pc' := 111) rfl ?_
      show Go Z k 3 12 ((ba, ArL Z al) :: (da, ArI Z .int (dl.set m (((hN - 1 - 6 * (B - 1 - m)).toInt32 - (fv hN B m).toInt32) + (1 : Int32)))) :: (fa, ArI Z .int fl2) :: (bl, Obj Z "com/example/remint/remint/BlockLayout" [("com/example/remint/remint/BlockLayout", "height", "I", (.int hN.toInt32)), ("com/example/remint/remint/BlockLayout", "firstDepth", "[I", (.ref fa)), ("com/example/remint/remint/BlockLayout", "depths", "[I", (.ref da)), ("com/example/remint/remint/BlockLayout", "bandAt", "[J", (.ref ba)), ("com/example/remint/remint/BlockLayout", "bytes", "J", (.long (0 : Int64)))]) :: F) 111 #[.val (.ref bl), .val (.int hN.toInt32), .val (.int B.toInt32), .val (.long at0), .second, .val (.int m.toInt32), .val (.int (hN - 1 - 6 * (B - 1 - m)).toInt32)] []
      obtain ⟨dl2, hdl, ld2⟩ : ∃ q : List Int32, q = (dl.set m (((hN - 1 - 6 * (B - 1 - m)).toInt32 - (fv hN B m).toInt32) + (1 : Int32))) ∧ q.length = B := ⟨_, rfl, by simp only [List.length_set]; exact ld⟩
      rw [← hdl]
      clear hdl
      show Go Z k 3 12 ((ba, ArL Z al) :: (da, ArI Z .int dl2) :: (fa, ArI Z .int fl2) :: (bl, Obj Z "com/example/remint/remint/BlockLayout" [("com/example/remint/remint/BlockLayout", "height", "I", (.int hN.toInt32)), ("com/example/remint/remint/BlockLayout", "firstDepth", "[I", (.ref fa)), ("com/example/remint/remint/BlockLayout", "depths", "[I", (.ref da)), ("com/example/remint/remint/BlockLayout", "bandAt", "[J", (.ref ba)), ("com/example/remint/remint/BlockLayout", "bytes", "J", (.long (0 : Int64)))]) :: F) 111 #[.val (.ref bl), .val (.int hN.toInt32), .val (.int B.toInt32), .val (.long at0), .second, .val (.int m.toInt32), .val (.int (hN - 1 - 6 * (B - 1 - m)).toInt32)] []
      refine s_aloadn H d2_111 rfl rfl (pc' := 112) rfl ?_
      refine s_getf H d2_112 (mem (i := 26) rfl) (i := 3) (j := 3) rfl rfl (pc' := 115) rfl ?_
      refine s_iload H d2_115 rfl (pc' := 117) rfl ?_
      refine s_lloadn H d2_117 rfl (pc' := 118) rfl ?_
      refine s_lastore H d2_118 (i := 0) rfl (own_nat (by omega)).2.1 (jn := m) (own_nat (by omega)).1 (by omega) (pc' := 119) rfl ?_
      show Go Z k 3 12 ((ba, ArL Z (al.set m at0)) :: (da, ArI Z .int dl2) :: (fa, ArI Z .int fl2) :: (bl, Obj Z "com/example/remint/remint/BlockLayout" [("com/example/remint/remint/BlockLayout", "height", "I", (.int hN.toInt32)), ("com/example/remint/remint/BlockLayout", "firstDepth", "[I", (.ref fa)), ("com/example/remint/remint/BlockLayout", "depths", "[I", (.ref da)), ("com/example/remint/remint/BlockLayout", "bandAt", "[J", (.ref ba)), ("com/example/remint/remint/BlockLayout", "bytes", "J", (.long (0 : Int64)))]) :: F) 119 #[.val (.ref bl), .val (.int hN.toInt32), .val (.int B.toInt32), .val (.long at0), .second, .val (.int m.toInt32), .val (.int (hN - 1 - 6 * (B - 1 - m)).toInt32)] []
      obtain ⟨al2, hal, la2⟩ : ∃ q : List Int64, q = (al.set m at0) ∧ q.length = B := ⟨_, rfl, by simp only [List.length_set]; exact la⟩
      rw [← hal]
      clear hal
      show Go Z k 3 12 ((ba, ArL Z al2) :: (da, ArI Z .int dl2) :: (fa, ArI Z .int fl2) :: (bl, Obj Z "com/example/remint/remint/BlockLayout" [("com/example/remint/remint/BlockLayout", "height", "I", (.int hN.toInt32)), ("com/example/remint/remint/BlockLayout", "firstDepth", "[I", (.ref fa)), ("com/example/remint/remint/BlockLayout", "depths", "[I", (.ref da)), ("com/example/remint/remint/BlockLayout", "bandAt", "[J", (.ref ba)), ("com/example/remint/remint/BlockLayout", "bytes", "J", (.long (0 : Int64)))]) :: F) 119 #[.val (.ref bl), .val (.int hN.toInt32), .val (.int B.toInt32), .val (.long at0), .second, .val (.int m.toInt32), .val (.int (hN - 1 - 6 * (B - 1 - m)).toInt32)] []
      refine s_lloadn H d2_119 rfl (pc' := 120) rfl ?_
      refine s_aloadn H d2_120 rfl rfl (pc' := 121) rfl ?_
      refine s_iload H d2_121 rfl (pc' := 123) rfl ?_
      refine s_priv H (met_bc H.tb bl fa da ba fl2 dl2 al2 hN.toInt32 (0 : Int64) m (by omega) (by omega) (by omega)) d2_123 (i := 3) rfl (mem (i := 29) rfl) (mem (i := 31) rfl) (mem (i := 36) rfl) rfl (mem (i := 30) rfl) (mem (i := 7) rfl) (mem (i := 32) rfl) (by decide) pd_5 rfl (rest := [(.long at0)]) rfl rfl (by decide) (Nat.le_of_ble_eq_true rfl) (cn' := 3) (sn' := 12) rfl rfl (by decide) (by decide) (pc' := 126) rfl (fun _ _ hq => ?_)
      obtain ⟨z1, rfl, rfl⟩ := hq
      show Go Z k 3 12 ((ba, ArL Z al2) :: (da, ArI Z .int dl2) :: (fa, ArI Z .int fl2) :: (bl, Obj Z "com/example/remint/remint/BlockLayout" [("com/example/remint/remint/BlockLayout", "height", "I", (.int hN.toInt32)), ("com/example/remint/remint/BlockLayout", "firstDepth", "[I", (.ref fa)), ("com/example/remint/remint/BlockLayout", "depths", "[I", (.ref da)), ("com/example/remint/remint/BlockLayout", "bandAt", "[J", (.ref ba)), ("com/example/remint/remint/BlockLayout", "bytes", "J", (.long (0 : Int64)))]) :: F) 126 #[.val (.ref bl), .val (.int hN.toInt32), .val (.int B.toInt32), .val (.long at0), .second, .val (.int m.toInt32), .val (.int (hN - 1 - 6 * (B - 1 - m)).toInt32)] [(.int z1), (.long at0)]
      refine s_i2l H d2_126 (pc' := 127) rfl ?_
      refine s_aloadn H d2_127 rfl rfl (pc' := 128) rfl ?_
      refine s_iload H d2_128 rfl (pc' := 130) rfl ?_
      refine s_virtual H (met_bb H.tb bl fa da ba fl2 dl2 al2 hN.toInt32 (0 : Int64) m (by omega) (by omega) (by omega)) d2_130 (i := 3) rfl (mem (i := 33) rfl) (mem (i := 34) rfl) (mem (i := 36) rfl) (mem (i := 35) rfl) (mem (i := 7) rfl) (mem (i := 37) rfl) (by decide) pd_6 rfl (rest := [(.long (z1.toInt64)), (.long at0)]) rfl rfl (by decide) (Nat.le_of_ble_eq_true rfl) (cn' := 3) (sn' := 12) rfl rfl (by decide) (by decide) (pc' := 133) rfl (fun _ _ hq => ?_)
      obtain ⟨z2, rfl, rfl⟩ := hq
      show Go Z k 3 12 ((ba, ArL Z al2) :: (da, ArI Z .int dl2) :: (fa, ArI Z .int fl2) :: (bl, Obj Z "com/example/remint/remint/BlockLayout" [("com/example/remint/remint/BlockLayout", "height", "I", (.int hN.toInt32)), ("com/example/remint/remint/BlockLayout", "firstDepth", "[I", (.ref fa)), ("com/example/remint/remint/BlockLayout", "depths", "[I", (.ref da)), ("com/example/remint/remint/BlockLayout", "bandAt", "[J", (.ref ba)), ("com/example/remint/remint/BlockLayout", "bytes", "J", (.long (0 : Int64)))]) :: F) 133 #[.val (.ref bl), .val (.int hN.toInt32), .val (.int B.toInt32), .val (.long at0), .second, .val (.int m.toInt32), .val (.int (hN - 1 - 6 * (B - 1 - m)).toInt32)] [(.int z2), (.long (z1.toInt64)), (.long at0)]
      refine s_i2l H d2_133 (pc' := 134) rfl ?_
      refine s_lmul H d2_134 (pc' := 135) rfl ?_
      refine s_ladd H d2_135 (pc' := 136) rfl ?_
      refine s_lstoren H d2_136 (L' := fun z => #[.val (.ref bl), .val (.int hN.toInt32), .val (.int B.toInt32), .val (.long z), .second, .val (.int m.toInt32), .val (.int (hN - 1 - 6 * (B - 1 - m)).toInt32)]) (fun _ => rfl) (pc' := 137) rfl (fun at1 h_at1 => ?_)
      refine s_iinc H d2_137 rfl (u := (1 : Int32)) (by decide) (L' := fun z => #[.val (.ref bl), .val (.int hN.toInt32), .val (.int B.toInt32), .val (.long at1), .second, .val (.int z), .val (.int (hN - 1 - 6 * (B - 1 - m)).toInt32)]) (fun _ => rfl) (pc' := 140) rfl (fun m2 h_m2 => ?_)
      refine s_goto H d2_140 (pc' := 53) (by decide) ?_
      rw [h_m2, own_succ]
      exact ih (m + 1) fl2 dl2 al2 _ _ lf2 ld2 la2 pf2 (by omega)
set_option maxRecDepth 65536 in
set_option maxHeartbeats 40000000 in
theorem i_one {Z : State} {k : Cx} {F : Hp} {bl fa da ba : Addr} {hN B : Nat} (m : Nat) {fl dl : List Int32} {al : List Int64} {at0 : Int64} (H : Ok Z k ({ frames := 3, cells := 3, slots := 12, locals := 44 } : Room) (fun v M' => ∃ (fa da ba : Addr) (fl dl : List Int32) (al : List Int64) (x : Int64), fl.length = B ∧ (∀ i, i < B → fl[i]? = some (fv hN B i).toInt32) ∧ v = none ∧ M' = ((ba, ArL Z al) :: (da, ArI Z .int dl) :: (fa, ArI Z .int fl) :: (bl, Obj Z "com/example/remint/remint/BlockLayout" [("com/example/remint/remint/BlockLayout", "height", "I", (.int hN.toInt32)), ("com/example/remint/remint/BlockLayout", "firstDepth", "[I", (.ref fa)), ("com/example/remint/remint/BlockLayout", "depths", "[I", (.ref da)), ("com/example/remint/remint/BlockLayout", "bandAt", "[J", (.ref ba)), ("com/example/remint/remint/BlockLayout", "bytes", "J", (.long x))]) :: F)) y_2 prog_1_method_1_code 7 none) (lf : fl.length = B) (ld : dl.length = B) (la : al.length = B) (pf : ∀ i, i < m → fl[i]? = some (fv hN B i).toInt32) (hB : 6 * (B - 1) ≤ hN - 1) (hB4 : B ≤ 4) (hB1 : 1 ≤ B) (hh : hN ≤ 25) (hh1 : 1 ≤ hN) (hm : m < B) : Go Z k 3 12 ((ba, ArL Z al) :: (da, ArI Z .int dl) :: (fa, ArI Z .int fl) :: (bl, Obj Z "com/example/remint/remint/BlockLayout" [("com/example/remint/remint/BlockLayout", "height", "I", (.int hN.toInt32)), ("com/example/remint/remint/BlockLayout", "firstDepth", "[I", (.ref fa)), ("com/example/remint/remint/BlockLayout", "depths", "[I", (.ref da)), ("com/example/remint/remint/BlockLayout", "bandAt", "[J", (.ref ba)), ("com/example/remint/remint/BlockLayout", "bytes", "J", (.long (0 : Int64)))]) :: F) 53 #[.val (.ref bl), .val (.int hN.toInt32), .val (.int B.toInt32), .val (.long at0), .second, .val (.int m.toInt32), .unset] [] := by
  refine s_iload H d2_53 rfl (pc' := 55) rfl ?_
  refine s_iloadn H d2_55 rfl (pc' := 56) rfl ?_
  refine s_icmp H d2_56 (py := 143) (pc' := 59) q_ge (by decide) rfl (fun c56 => ?_) (fun c56 => ?_)
  · exact absurd ((own_le (by omega) (by omega)).mp c56) (by omega)
  · refine s_iloadn H d2_59 rfl (pc' := 60) rfl ?_
    refine s_iconst H d2_60 (z := (1 : Int32)) (by decide) (pc' := 61) rfl ?_
    refine s_isub H d2_61 (pc' := 62) rfl ?_
    refine s_bipush H d2_62 (z := (6 : Int32)) (by decide) (pc' := 64) rfl ?_
    refine s_iloadn H d2_64 rfl (pc' := 65) rfl ?_
    refine s_iconst H d2_65 (z := (1 : Int32)) (by decide) (pc' := 66) rfl ?_
    have e1 : B.toInt32 - 1 = (B - 1).toInt32 := own_subN (n := 1) (by omega) (by omega)
    have e2 : (B - 1).toInt32 - m.toInt32 = (B - 1 - m).toInt32 := own_subN (by omega) (by omega)
    have e3 : (6 : Int32) * (B - 1 - m).toInt32 = (6 * (B - 1 - m)).toInt32 := (Int32.ofNat_mul 6 (B - 1 - m)).symm
    have e4 : hN.toInt32 - 1 = (hN - 1).toInt32 := own_subN (n := 1) (by omega) (by omega)
    have e5 : (hN - 1).toInt32 - (6 * (B - 1 - m)).toInt32 = (hN - 1 - 6 * (B - 1 - m)).toInt32 := own_subN (by omega) (by omega)
    refine s_isub H d2_66 (pc' := 67) rfl ?_
    rw [e1]
    refine s_iload H d2_67 rfl (pc' := 69) rfl ?_
    refine s_isub H d2_69 (pc' := 70) rfl ?_
    rw [e2]
    refine s_imul H d2_70 (pc' := 71) rfl ?_
    rw [e3]
    refine s_isub H d2_71 (pc' := 72) rfl ?_
    rw [e4, e5]
    refine s_istore H d2_72 (L' := fun z => #[.val (.ref bl), .val (.int hN.toInt32), .val (.int B.toInt32), .val (.long at0), .second, .val (.int m.toInt32), .val (.int z)]) (fun _ => rfl) (pc' := 74) rfl (fun z0 hz => ?_)
    subst z0
    refine s_aloadn H d2_74 rfl rfl (pc' := 75) rfl ?_
    refine s_getf H d2_75 (mem (i := 21) rfl) (i := 3) (j := 1) rfl rfl (pc' := 78) rfl ?_
    refine s_iload H d2_78 rfl (pc' := 80) rfl ?_
    refine s_iconst H d2_80 (z := (1 : Int32)) (by decide) (pc' := 81) rfl ?_
    refine s_iload H d2_81 rfl (pc' := 83) rfl ?_
    refine s_bipush H d2_83 (z := (6 : Int32)) (by decide) (pc' := 85) rfl ?_
    refine s_isub H d2_85 (pc' := 86) rfl ?_
    refine s_iconst H d2_86 (z := (1 : Int32)) (by decide) (pc' := 87) rfl ?_
    refine s_iadd H d2_87 (pc' := 88) rfl ?_
    refine s_static H (met_max H.tb (1 : Int32) (((hN - 1 - 6 * (B - 1 - m)).toInt32 - (6 : Int32)) + (1 : Int32))) d2_88 (mem (i := 16) rfl) (mem (i := 17) rfl) (mem (i := 18) rfl) (mem (i := 19) rfl) (by decide) pd_4 rfl (rest := [(.int m.toInt32), (.ref fa)]) rfl rfl (by decide) (Nat.le_of_ble_eq_true rfl) (cn' := 3) (sn' := 12) rfl rfl (by decide) (by decide) (pc' := 91) rfl (fun _ _ hq => ?_)
    obtain ⟨r1, hr1, rfl, rfl⟩ := hq
    show Go Z k 3 12 ((ba, ArL Z al) :: (da, ArI Z .int dl) :: (fa, ArI Z .int fl) :: (bl, Obj Z "com/example/remint/remint/BlockLayout" [("com/example/remint/remint/BlockLayout", "height", "I", (.int hN.toInt32)), ("com/example/remint/remint/BlockLayout", "firstDepth", "[I", (.ref fa)), ("com/example/remint/remint/BlockLayout", "depths", "[I", (.ref da)), ("com/example/remint/remint/BlockLayout", "bandAt", "[J", (.ref ba)), ("com/example/remint/remint/BlockLayout", "bytes", "J", (.long (0 : Int64)))]) :: F) 91 #[.val (.ref bl), .val (.int hN.toInt32), .val (.int B.toInt32), .val (.long at0), .second, .val (.int m.toInt32), .val (.int (hN - 1 - 6 * (B - 1 - m)).toInt32)] [(.int r1), (.int m.toInt32), (.ref fa)]
    have em : r1 = (fv hN B m).toInt32 := by
      apply Int32.toInt_inj.mp
      have s1 := c_isub (hN - 1 - 6 * (B - 1 - m)).toInt32 6
      have s2 := c_iadd ((hN - 1 - 6 * (B - 1 - m)).toInt32 - 6) 1
      have w1 := rng32 ((hN - 1 - 6 * (B - 1 - m)).toInt32 - 6)
      have w2 := rng32 ((hN - 1 - 6 * (B - 1 - m)).toInt32 - 6 + 1)
      rw [(own_nat (by omega)).2.2, show (6 : Int32).toInt = 6 from by decide] at s1
      rw [show (1 : Int32).toInt = 1 from by decide] at s2
      have fb : fv hN B m ≤ 25 := by unfold fv; omega
      rw [(own_nat (by omega)).2.2, hr1, show (1 : Int32).toInt = 1 from by decide]
      unfold fv; omega
    rw [em]
    show Go Z k 3 12 ((ba, ArL Z al) :: (da, ArI Z .int dl) :: (fa, ArI Z .int fl) :: (bl, Obj Z "com/example/remint/remint/BlockLayout" [("com/example/remint/remint/BlockLayout", "height", "I", (.int hN.toInt32)), ("com/example/remint/remint/BlockLayout", "firstDepth", "[I", (.ref fa)), ("com/example/remint/remint/BlockLayout", "depths", "[I", (.ref da)), ("com/example/remint/remint/BlockLayout", "bandAt", "[J", (.ref ba)), ("com/example/remint/remint/BlockLayout", "bytes", "J", (.long (0 : Int64)))]) :: F) 91 #[.val (.ref bl), .val (.int hN.toInt32), .val (.int B.toInt32), .val (.long at0), .second, .val (.int m.toInt32), .val (.int (hN - 1 - 6 * (B - 1 - m)).toInt32)] [(.int (fv hN B m).toInt32), (.int m.toInt32), (.ref fa)]
    refine s_iastore H d2_91 (i := 2) rfl (own_nat (by omega)).2.1 (jn := m) (own_nat (by omega)).1 (by omega) (pc' := 92) rfl ?_
    show Go Z k 3 12 ((ba, ArL Z al) :: (da, ArI Z .int dl) :: (fa, ArI Z .int (fl.set m (fv hN B m).toInt32)) :: (bl, Obj Z "com/example/remint/remint/BlockLayout" [("com/example/remint/remint/BlockLayout", "height", "I", (.int hN.toInt32)), ("com/example/remint/remint/BlockLayout", "firstDepth", "[I", (.ref fa)), ("com/example/remint/remint/BlockLayout", "depths", "[I", (.ref da)), ("com/example/remint/remint/BlockLayout", "bandAt", "[J", (.ref ba)), ("com/example/remint/remint/BlockLayout", "bytes", "J", (.long (0 : Int64)))]) :: F) 92 #[.val (.ref bl), .val (.int hN.toInt32), .val (.int B.toInt32), .val (.long at0), .second, .val (.int m.toInt32), .val (.int (hN - 1 - 6 * (B - 1 - m)).toInt32)] []
    obtain ⟨fl2, hfl, lf2, pf2⟩ : ∃ q : List Int32, q = (fl.set m (fv hN B m).toInt32) ∧ q.length = B ∧ ∀ i, i < m + 1 → q[i]? = some (fv hN B i).toInt32 := ⟨_, rfl, by simp only [List.length_set]; exact lf, fun i hi => own_set_get (f := fun i => (fv hN B i).toInt32) pf (by omega) rfl hi⟩
    rw [← hfl]
    clear hfl
    show Go Z k 3 12 ((ba, ArL Z al) :: (da, ArI Z .int dl) :: (fa, ArI Z .int fl2) :: (bl, Obj Z "com/example/remint/remint/BlockLayout" [("com/example/remint/remint/BlockLayout", "height", "I", (.int hN.toInt32)), ("com/example/remint/remint/BlockLayout", "firstDepth", "[I", (.ref fa)), ("com/example/remint/remint/BlockLayout", "depths", "[I", (.ref da)), ("com/example/remint/remint/BlockLayout", "bandAt", "[J", (.ref ba)), ("com/example/remint/remint/BlockLayout", "bytes", "J", (.long (0 : Int64)))]) :: F) 92 #[.val (.ref bl), .val (.int hN.toInt32), .val (.int B.toInt32), .val (.long at0), .second, .val (.int m.toInt32), .val (.int (hN - 1 - 6 * (B - 1 - m)).toInt32)] []
    refine s_aloadn H d2_92 rfl rfl (pc' := 93) rfl ?_
    refine s_getf H d2_93 (mem (i := 23) rfl) (i := 3) (j := 2) rfl rfl (pc' := 96) rfl ?_
    refine s_iload H d2_96 rfl (pc' := 98) rfl ?_
    refine s_iload H d2_98 rfl (pc' := 100) rfl ?_
    refine s_aloadn H d2_100 rfl rfl (pc' := 101) rfl ?_
    refine s_getf H d2_101 (mem (i := 21) rfl) (i := 3) (j := 1) rfl rfl (pc' := 104) rfl ?_
    refine s_iload H d2_104 rfl (pc' := 106) rfl ?_
    refine s_iaload H d2_106 (i := 2) rfl (x := (fv hN B m).toInt32) (own_nat (by omega)).2.1 (jn := m) (own_nat (by omega)).1 (pf2 m (by omega)) (pc' := 107) rfl ?_
    refine s_isub H d2_107 (pc' := 108) rfl ?_
    refine s_iconst H d2_108 (z := (1 : Int32)) (by decide) (pc' := 109) rfl ?_
    refine s_iadd H d2_109 (pc' := 110) rfl ?_
    refine s_iastore H d2_110 (i := 1) rfl (own_nat (by omega)).2.1 (jn := m) (own_nat (by omega)).1 (by omega) (pc' := 111) rfl ?_
    show Go Z k 3 12 ((ba, ArL Z al) :: (da, ArI Z .int (dl.set m (((hN - 1 - 6 * (B - 1 - m)).toInt32 - (fv hN B m).toInt32) + (1 : Int32)))) :: (fa, ArI Z .int fl2) :: (bl, Obj Z "com/example/remint/remint/BlockLayout" [("com/example/remint/remint/BlockLayout", "height", "I", (.int hN.toInt32)), ("com/example/remint/remint/BlockLayout", "firstDepth", "[I", (.ref fa)), ("com/example/remint/remint/BlockLayout", "depths", "[I", (.ref da)), ("com/example/remint/remint/BlockLayout", "bandAt", "[J", (.ref ba)), ("com/example/remint/remint/BlockLayout", "bytes", "J", (.long (0 : Int64)))]) :: F) 111 #[.val (.ref bl), .val (.int hN.toInt32), .val (.int B.toInt32), .val (.long at0), .second, .val (.int m.toInt32), .val (.int (hN - 1 - 6 * (B - 1 - m)).toInt32)] []
    obtain ⟨dl2, hdl, ld2⟩ : ∃ q : List Int32, q = (dl.set m (((hN - 1 - 6 * (B - 1 - m)).toInt32 - (fv hN B m).toInt32) + (1 : Int32))) ∧ q.length = B := ⟨_, rfl, by simp only [List.length_set]; exact ld⟩
    rw [← hdl]
    clear hdl
    show Go Z k 3 12 ((ba, ArL Z al) :: (da, ArI Z .int dl2) :: (fa, ArI Z .int fl2) :: (bl, Obj Z "com/example/remint/remint/BlockLayout" [("com/example/remint/remint/BlockLayout", "height", "I", (.int hN.toInt32)), ("com/example/remint/remint/BlockLayout", "firstDepth", "[I", (.ref fa)), ("com/example/remint/remint/BlockLayout", "depths", "[I", (.ref da)), ("com/example/remint/remint/BlockLayout", "bandAt", "[J", (.ref ba)), ("com/example/remint/remint/BlockLayout", "bytes", "J", (.long (0 : Int64)))]) :: F) 111 #[.val (.ref bl), .val (.int hN.toInt32), .val (.int B.toInt32), .val (.long at0), .second, .val (.int m.toInt32), .val (.int (hN - 1 - 6 * (B - 1 - m)).toInt32)] []
    refine s_aloadn H d2_111 rfl rfl (pc' := 112) rfl ?_
    refine s_getf H d2_112 (mem (i := 26) rfl) (i := 3) (j := 3) rfl rfl (pc' := 115) rfl ?_
    refine s_iload H d2_115 rfl (pc' := 117) rfl ?_
    refine s_lloadn H d2_117 rfl (pc' := 118) rfl ?_
    refine s_lastore H d2_118 (i := 0) rfl (own_nat (by omega)).2.1 (jn := m) (own_nat (by omega)).1 (by omega) (pc' := 119) rfl ?_
    show Go Z k 3 12 ((ba, ArL Z (al.set m at0)) :: (da, ArI Z .int dl2) :: (fa, ArI Z .int fl2) :: (bl, Obj Z "com/example/remint/remint/BlockLayout" [("com/example/remint/remint/BlockLayout", "height", "I", (.int hN.toInt32)), ("com/example/remint/remint/BlockLayout", "firstDepth", "[I", (.ref fa)), ("com/example/remint/remint/BlockLayout", "depths", "[I", (.ref da)), ("com/example/remint/remint/BlockLayout", "bandAt", "[J", (.ref ba)), ("com/example/remint/remint/BlockLayout", "bytes", "J", (.long (0 : Int64)))]) :: F) 119 #[.val (.ref bl), .val (.int hN.toInt32), .val (.int B.toInt32), .val (.long at0), .second, .val (.int m.toInt32), .val (.int (hN - 1 - 6 * (B - 1 - m)).toInt32)] []
    obtain ⟨al2, hal, la2⟩ : ∃ q : List Int64, q = (al.set m at0) ∧ q.length = B := ⟨_, rfl, by simp only [List.length_set]; exact la⟩
    rw [← hal]
    clear hal
    show Go Z k 3 12 ((ba, ArL Z al2) :: (da, ArI Z .int dl2) :: (fa, ArI Z .int fl2) :: (bl, Obj Z "com/example/remint/remint/BlockLayout" [("com/example/remint/remint/BlockLayout", "height", "I", (.int hN.toInt32)), ("com/example/remint/remint/BlockLayout", "firstDepth", "[I", (.ref fa)), ("com/example/remint/remint/BlockLayout", "depths", "[I", (.ref da)), ("com/example/remint/remint/BlockLayout", "bandAt", "[J", (.ref ba)), ("com/example/remint/remint/BlockLayout", "bytes", "J", (.long (0 : Int64)))]) :: F) 119 #[.val (.ref bl), .val (.int hN.toInt32), .val (.int B.toInt32), .val (.long at0), .second, .val (.int m.toInt32), .val (.int (hN - 1 - 6 * (B - 1 - m)).toInt32)] []
    refine s_lloadn H d2_119 rfl (pc' := 120) rfl ?_
    refine s_aloadn H d2_120 rfl rfl (pc' := 121) rfl ?_
    refine s_iload H d2_121 rfl (pc' := 123) rfl ?_
    refine s_priv H (met_bc H.tb bl fa da ba fl2 dl2 al2 hN.toInt32 (0 : Int64) m (by omega) (by omega) (by omega)) d2_123 (i := 3) rfl (mem (i := 29) rfl) (mem (i := 31) rfl) (mem (i := 36) rfl) rfl (mem (i := 30) rfl) (mem (i := 7) rfl) (mem (i := 32) rfl) (by decide) pd_5 rfl (rest := [(.long at0)]) rfl rfl (by decide) (Nat.le_of_ble_eq_true rfl) (cn' := 3) (sn' := 12) rfl rfl (by decide) (by decide) (pc' := 126) rfl (fun _ _ hq => ?_)
    obtain ⟨z1, rfl, rfl⟩ := hq
    show Go Z k 3 12 ((ba, ArL Z al2) :: (da, ArI Z .int dl2) :: (fa, ArI Z .int fl2) :: (bl, Obj Z "com/example/remint/remint/BlockLayout" [("com/example/remint/remint/BlockLayout", "height", "I", (.int hN.toInt32)), ("com/example/remint/remint/BlockLayout", "firstDepth", "[I", (.ref fa)), ("com/example/remint/remint/BlockLayout", "depths", "[I", (.ref da)), ("com/example/remint/remint/BlockLayout", "bandAt", "[J", (.ref ba)), ("com/example/remint/remint/BlockLayout", "bytes", "J", (.long (0 : Int64)))]) :: F) 126 #[.val (.ref bl), .val (.int hN.toInt32), .val (.int B.toInt32), .val (.long at0), .second, .val (.int m.toInt32), .val (.int (hN - 1 - 6 * (B - 1 - m)).toInt32)] [(.int z1), (.long at0)]
    refine s_i2l H d2_126 (pc' := 127) rfl ?_
    refine s_aloadn H d2_127 rfl rfl (pc' := 128) rfl ?_
    refine s_iload H d2_128 rfl (pc' := 130) rfl ?_
    refine s_virtual H (met_bb H.tb bl fa da ba fl2 dl2 al2 hN.toInt32 (0 : Int64) m (by omega) (by omega) (by omega)) d2_130 (i := 3) rfl (mem (i := 33) rfl) (mem (i := 34) rfl) (mem (i := 36) rfl) (mem (i := 35) rfl) (mem (i := 7) rfl) (mem (i := 37) rfl) (by decide) pd_6 rfl (rest := [(.long (z1.toInt64)), (.long at0)]) rfl rfl (by decide) (Nat.le_of_ble_eq_true rfl) (cn' := 3) (sn' := 12) rfl rfl (by decide) (by decide) (pc' := 133) rfl (fun _ _ hq => ?_)
    obtain ⟨z2, rfl, rfl⟩ := hq
    show Go Z k 3 12 ((ba, ArL Z al2) :: (da, ArI Z .int dl2) :: (fa, ArI Z .int fl2) :: (bl, Obj Z "com/example/remint/remint/BlockLayout" [("com/example/remint/remint/BlockLayout", "height", "I", (.int hN.toInt32)), ("com/example/remint/remint/BlockLayout", "firstDepth", "[I", (.ref fa)), ("com/example/remint/remint/BlockLayout", "depths", "[I", (.ref da)), ("com/example/remint/remint/BlockLayout", "bandAt", "[J", (.ref ba)), ("com/example/remint/remint/BlockLayout", "bytes", "J", (.long (0 : Int64)))]) :: F) 133 #[.val (.ref bl), .val (.int hN.toInt32), .val (.int B.toInt32), .val (.long at0), .second, .val (.int m.toInt32), .val (.int (hN - 1 - 6 * (B - 1 - m)).toInt32)] [(.int z2), (.long (z1.toInt64)), (.long at0)]
    refine s_i2l H d2_133 (pc' := 134) rfl ?_
    refine s_lmul H d2_134 (pc' := 135) rfl ?_
    refine s_ladd H d2_135 (pc' := 136) rfl ?_
    refine s_lstoren H d2_136 (L' := fun z => #[.val (.ref bl), .val (.int hN.toInt32), .val (.int B.toInt32), .val (.long z), .second, .val (.int m.toInt32), .val (.int (hN - 1 - 6 * (B - 1 - m)).toInt32)]) (fun _ => rfl) (pc' := 137) rfl (fun at1 h_at1 => ?_)
    refine s_iinc H d2_137 rfl (u := (1 : Int32)) (by decide) (L' := fun z => #[.val (.ref bl), .val (.int hN.toInt32), .val (.int B.toInt32), .val (.long at1), .second, .val (.int z), .val (.int (hN - 1 - 6 * (B - 1 - m)).toInt32)]) (fun _ => rfl) (pc' := 140) rfl (fun m2 h_m2 => ?_)
    refine s_goto H d2_140 (pc' := 53) (by decide) ?_
    rw [h_m2, own_succ]
    exact i_loop (B - (m + 1)) (m + 1) fl2 dl2 al2 _ _ H lf2 ld2 la2 pf2 hB hB4 hB1 hh hh1 (by omega)
set_option maxRecDepth 65536 in
set_option maxHeartbeats 40000000 in
theorem met_bi {Z : State} (HT : Tb Z) {F : Hp} (bl : Addr) (hN B : Nat) (eB0 : B = (max 1 ((hN + 4) / 6))) (hh : hN ≤ 25) (hh1 : 1 ≤ hN) : Met Z y_2 prog_1_method_1_code 7 none ({ frames := 3, cells := 3, slots := 12, locals := 44 } : Room) [(.ref bl), (.int hN.toInt32)] ((bl, Obj Z "com/example/remint/remint/BlockLayout" [("com/example/remint/remint/BlockLayout", "height", "I", (.int (0 : Int32))), ("com/example/remint/remint/BlockLayout", "firstDepth", "[I", .null), ("com/example/remint/remint/BlockLayout", "depths", "[I", .null), ("com/example/remint/remint/BlockLayout", "bandAt", "[J", .null), ("com/example/remint/remint/BlockLayout", "bytes", "J", (.long (0 : Int64)))]) :: F) (fun v M' => ∃ (fa da ba : Addr) (fl dl : List Int32) (al : List Int64) (x : Int64), fl.length = B ∧ (∀ i, i < B → fl[i]? = some (fv hN B i).toInt32) ∧ v = none ∧ M' = ((ba, ArL Z al) :: (da, ArI Z .int dl) :: (fa, ArI Z .int fl) :: (bl, Obj Z "com/example/remint/remint/BlockLayout" [("com/example/remint/remint/BlockLayout", "height", "I", (.int hN.toInt32)), ("com/example/remint/remint/BlockLayout", "firstDepth", "[I", (.ref fa)), ("com/example/remint/remint/BlockLayout", "depths", "[I", (.ref da)), ("com/example/remint/remint/BlockLayout", "bandAt", "[J", (.ref ba)), ("com/example/remint/remint/BlockLayout", "bytes", "J", (.long x))]) :: F)) := by
  refine Met.of HT pl_2 (Ls := #[.val (.ref bl), .val (.int hN.toInt32), .unset, .unset, .unset, .unset, .unset]) (fun m => by first | (simp [entryFrame, mkF, argsToLocals, Value.category]; done) | rfl) (fun k H => ?_)
  have hB : 6 * (B - 1) ≤ hN - 1 := by omega
  have hB4 : B ≤ 4 := by omega
  have hB1 : 1 ≤ B := by omega
  refine s_aloadn H d2_0 rfl rfl (pc' := 1) rfl ?_
  refine s_objinit H d2_1 (mem (i := 11) rfl) (mem (i := 12) rfl) (mem (i := 13) rfl) rfl (by decide) (Nat.le_of_ble_eq_true rfl) (pc' := 4) rfl ?_
  refine s_aloadn H d2_4 rfl rfl (pc' := 5) rfl ?_
  refine s_iloadn H d2_5 rfl (pc' := 6) rfl ?_
  refine s_putf H d2_6 (mem (i := 14) rfl) (Or.inr ⟨(mem (i := 15) rfl), rfl, rfl⟩) (mem (i := 6) rfl) (ty := .int) (by decide) rfl rfl (i := 0) (j := 0) rfl rfl (pc' := 9) rfl ?_
  show Go Z k 0 0 ((bl, Obj Z "com/example/remint/remint/BlockLayout" [("com/example/remint/remint/BlockLayout", "height", "I", (.int hN.toInt32)), ("com/example/remint/remint/BlockLayout", "firstDepth", "[I", .null), ("com/example/remint/remint/BlockLayout", "depths", "[I", .null), ("com/example/remint/remint/BlockLayout", "bandAt", "[J", .null), ("com/example/remint/remint/BlockLayout", "bytes", "J", (.long (0 : Int64)))]) :: F) 9 #[.val (.ref bl), .val (.int hN.toInt32), .unset, .unset, .unset, .unset, .unset] []
  refine s_iconst H d2_9 (z := (1 : Int32)) (by decide) (pc' := 10) rfl ?_
  refine s_iloadn H d2_10 rfl (pc' := 11) rfl ?_
  refine s_iconst H d2_11 (z := (1 : Int32)) (by decide) (pc' := 12) rfl ?_
  refine s_isub H d2_12 (pc' := 13) rfl ?_
  refine s_bipush H d2_13 (z := (6 : Int32)) (by decide) (pc' := 15) rfl ?_
  refine s_iadd H d2_15 (pc' := 16) rfl ?_
  refine s_iconst H d2_16 (z := (1 : Int32)) (by decide) (pc' := 17) rfl ?_
  refine s_isub H d2_17 (pc' := 18) rfl ?_
  refine s_bipush H d2_18 (z := (6 : Int32)) (by decide) (pc' := 20) rfl ?_
  refine s_idiv H d2_20 (by decide) (pc' := 21) rfl ?_
  refine s_static H (met_max H.tb (1 : Int32) ((((hN.toInt32 - (1 : Int32)) + (6 : Int32)) - (1 : Int32)) / (6 : Int32))) d2_21 (mem (i := 16) rfl) (mem (i := 17) rfl) (mem (i := 18) rfl) (mem (i := 19) rfl) (by decide) pd_4 rfl (rest := []) rfl rfl (by decide) (Nat.le_of_ble_eq_true rfl) (cn' := 0) (sn' := 0) rfl rfl (by decide) (by decide) (pc' := 24) rfl (fun _ _ hq => ?_)
  obtain ⟨r1, hr1, rfl, rfl⟩ := hq
  show Go Z k 0 0 ((bl, Obj Z "com/example/remint/remint/BlockLayout" [("com/example/remint/remint/BlockLayout", "height", "I", (.int hN.toInt32)), ("com/example/remint/remint/BlockLayout", "firstDepth", "[I", .null), ("com/example/remint/remint/BlockLayout", "depths", "[I", .null), ("com/example/remint/remint/BlockLayout", "bandAt", "[J", .null), ("com/example/remint/remint/BlockLayout", "bytes", "J", (.long (0 : Int64)))]) :: F) 24 #[.val (.ref bl), .val (.int hN.toInt32), .unset, .unset, .unset, .unset, .unset] [(.int r1)]
  have eB : r1 = B.toInt32 := by
    apply Int32.toInt_inj.mp
    have s1 := c_isub hN.toInt32 1
    have s2 := c_iadd (hN.toInt32 - 1) 6
    have s3 := c_isub (hN.toInt32 - 1 + 6) 1
    have w1 := rng32 (hN.toInt32 - 1)
    have w2 := rng32 (hN.toInt32 - 1 + 6)
    have w3 := rng32 (hN.toInt32 - 1 + 6 - 1)
    rw [(own_nat (by omega)).2.2, show (1 : Int32).toInt = 1 from by decide] at s1
    rw [show (6 : Int32).toInt = 6 from by decide] at s2
    rw [show (1 : Int32).toInt = 1 from by decide] at s3
    have d1 := (c_idiv (hN.toInt32 - 1 + 6 - 1) 6 6 (by decide) (by decide)).1 (by omega)
    rw [(own_nat (by omega)).2.2, hr1, d1, show (1 : Int32).toInt = 1 from by decide]
    omega
  rw [eB]
  show Go Z k 0 0 ((bl, Obj Z "com/example/remint/remint/BlockLayout" [("com/example/remint/remint/BlockLayout", "height", "I", (.int hN.toInt32)), ("com/example/remint/remint/BlockLayout", "firstDepth", "[I", .null), ("com/example/remint/remint/BlockLayout", "depths", "[I", .null), ("com/example/remint/remint/BlockLayout", "bandAt", "[J", .null), ("com/example/remint/remint/BlockLayout", "bytes", "J", (.long (0 : Int64)))]) :: F) 24 #[.val (.ref bl), .val (.int hN.toInt32), .unset, .unset, .unset, .unset, .unset] [(.int B.toInt32)]
  refine s_istoren H d2_24 (L' := fun z => #[.val (.ref bl), .val (.int hN.toInt32), .val (.int z), .unset, .unset, .unset, .unset]) (fun _ => rfl) (pc' := 25) rfl (fun z0 hz => ?_)
  subst z0
  refine s_aloadn H d2_25 rfl rfl (pc' := 26) rfl ?_
  refine s_iloadn H d2_26 rfl (pc' := 27) rfl ?_
  refine s_newarr_int H d2_27 (mem (i := 20) rfl) (own_nat (by omega)).2.1 (cap := 4) (by rw [(own_nat (by omega)).1]; omega) (by decide) (cn' := 1) (sn' := 4) rfl rfl (by decide) (by decide) (pc' := 29) rfl (fun fa => ?_)
  rw [(own_nat (by omega)).1]
  show Go Z k 1 4 ((fa, ArI Z .int (List.replicate B 0)) :: (bl, Obj Z "com/example/remint/remint/BlockLayout" [("com/example/remint/remint/BlockLayout", "height", "I", (.int hN.toInt32)), ("com/example/remint/remint/BlockLayout", "firstDepth", "[I", .null), ("com/example/remint/remint/BlockLayout", "depths", "[I", .null), ("com/example/remint/remint/BlockLayout", "bandAt", "[J", .null), ("com/example/remint/remint/BlockLayout", "bytes", "J", (.long (0 : Int64)))]) :: F) 29 #[.val (.ref bl), .val (.int hN.toInt32), .val (.int B.toInt32), .unset, .unset, .unset, .unset] [(.ref fa), (.ref bl)]
  refine s_putf H d2_29 (mem (i := 21) rfl) (Or.inr ⟨(mem (i := 22) rfl), rfl, rfl⟩) (mem (i := 6) rfl) (ty := (.array .int)) (by decide) rfl rfl (i := 1) (j := 1) rfl rfl (pc' := 32) rfl ?_
  show Go Z k 1 4 ((fa, ArI Z .int (List.replicate B 0)) :: (bl, Obj Z "com/example/remint/remint/BlockLayout" [("com/example/remint/remint/BlockLayout", "height", "I", (.int hN.toInt32)), ("com/example/remint/remint/BlockLayout", "firstDepth", "[I", (.ref fa)), ("com/example/remint/remint/BlockLayout", "depths", "[I", .null), ("com/example/remint/remint/BlockLayout", "bandAt", "[J", .null), ("com/example/remint/remint/BlockLayout", "bytes", "J", (.long (0 : Int64)))]) :: F) 32 #[.val (.ref bl), .val (.int hN.toInt32), .val (.int B.toInt32), .unset, .unset, .unset, .unset] []
  refine s_aloadn H d2_32 rfl rfl (pc' := 33) rfl ?_
  refine s_iloadn H d2_33 rfl (pc' := 34) rfl ?_
  refine s_newarr_int H d2_34 (mem (i := 20) rfl) (own_nat (by omega)).2.1 (cap := 4) (by rw [(own_nat (by omega)).1]; omega) (by decide) (cn' := 2) (sn' := 8) rfl rfl (by decide) (by decide) (pc' := 36) rfl (fun da => ?_)
  rw [(own_nat (by omega)).1]
  show Go Z k 2 8 ((da, ArI Z .int (List.replicate B 0)) :: (fa, ArI Z .int (List.replicate B 0)) :: (bl, Obj Z "com/example/remint/remint/BlockLayout" [("com/example/remint/remint/BlockLayout", "height", "I", (.int hN.toInt32)), ("com/example/remint/remint/BlockLayout", "firstDepth", "[I", (.ref fa)), ("com/example/remint/remint/BlockLayout", "depths", "[I", .null), ("com/example/remint/remint/BlockLayout", "bandAt", "[J", .null), ("com/example/remint/remint/BlockLayout", "bytes", "J", (.long (0 : Int64)))]) :: F) 36 #[.val (.ref bl), .val (.int hN.toInt32), .val (.int B.toInt32), .unset, .unset, .unset, .unset] [(.ref da), (.ref bl)]
  refine s_putf H d2_36 (mem (i := 23) rfl) (Or.inr ⟨(mem (i := 24) rfl), rfl, rfl⟩) (mem (i := 6) rfl) (ty := (.array .int)) (by decide) rfl rfl (i := 2) (j := 2) rfl rfl (pc' := 39) rfl ?_
  show Go Z k 2 8 ((da, ArI Z .int (List.replicate B 0)) :: (fa, ArI Z .int (List.replicate B 0)) :: (bl, Obj Z "com/example/remint/remint/BlockLayout" [("com/example/remint/remint/BlockLayout", "height", "I", (.int hN.toInt32)), ("com/example/remint/remint/BlockLayout", "firstDepth", "[I", (.ref fa)), ("com/example/remint/remint/BlockLayout", "depths", "[I", (.ref da)), ("com/example/remint/remint/BlockLayout", "bandAt", "[J", .null), ("com/example/remint/remint/BlockLayout", "bytes", "J", (.long (0 : Int64)))]) :: F) 39 #[.val (.ref bl), .val (.int hN.toInt32), .val (.int B.toInt32), .unset, .unset, .unset, .unset] []
  refine s_aloadn H d2_39 rfl rfl (pc' := 40) rfl ?_
  refine s_iloadn H d2_40 rfl (pc' := 41) rfl ?_
  refine s_newarr_long H d2_41 (mem (i := 25) rfl) (own_nat (by omega)).2.1 (cap := 4) (by rw [(own_nat (by omega)).1]; omega) (by decide) (cn' := 3) (sn' := 12) rfl rfl (by decide) (by decide) (pc' := 43) rfl (fun ba => ?_)
  rw [(own_nat (by omega)).1]
  show Go Z k 3 12 ((ba, ArL Z (List.replicate B 0)) :: (da, ArI Z .int (List.replicate B 0)) :: (fa, ArI Z .int (List.replicate B 0)) :: (bl, Obj Z "com/example/remint/remint/BlockLayout" [("com/example/remint/remint/BlockLayout", "height", "I", (.int hN.toInt32)), ("com/example/remint/remint/BlockLayout", "firstDepth", "[I", (.ref fa)), ("com/example/remint/remint/BlockLayout", "depths", "[I", (.ref da)), ("com/example/remint/remint/BlockLayout", "bandAt", "[J", .null), ("com/example/remint/remint/BlockLayout", "bytes", "J", (.long (0 : Int64)))]) :: F) 43 #[.val (.ref bl), .val (.int hN.toInt32), .val (.int B.toInt32), .unset, .unset, .unset, .unset] [(.ref ba), (.ref bl)]
  refine s_putf H d2_43 (mem (i := 26) rfl) (Or.inr ⟨(mem (i := 27) rfl), rfl, rfl⟩) (mem (i := 6) rfl) (ty := (.array .long)) (by decide) rfl rfl (i := 3) (j := 3) rfl rfl (pc' := 46) rfl ?_
  show Go Z k 3 12 ((ba, ArL Z (List.replicate B 0)) :: (da, ArI Z .int (List.replicate B 0)) :: (fa, ArI Z .int (List.replicate B 0)) :: (bl, Obj Z "com/example/remint/remint/BlockLayout" [("com/example/remint/remint/BlockLayout", "height", "I", (.int hN.toInt32)), ("com/example/remint/remint/BlockLayout", "firstDepth", "[I", (.ref fa)), ("com/example/remint/remint/BlockLayout", "depths", "[I", (.ref da)), ("com/example/remint/remint/BlockLayout", "bandAt", "[J", (.ref ba)), ("com/example/remint/remint/BlockLayout", "bytes", "J", (.long (0 : Int64)))]) :: F) 46 #[.val (.ref bl), .val (.int hN.toInt32), .val (.int B.toInt32), .unset, .unset, .unset, .unset] []
  refine s_ldc2 H d2_46 (mem (i := 28) rfl) (pc' := 49) rfl ?_
  refine s_lstoren H d2_49 (L' := fun z => #[.val (.ref bl), .val (.int hN.toInt32), .val (.int B.toInt32), .val (.long z), .second, .unset, .unset]) (fun _ => rfl) (pc' := 50) rfl (fun z0 hz => ?_)
  subst z0
  refine s_iconst H d2_50 (z := (0 : Int32)) (by decide) (pc' := 51) rfl ?_
  refine s_istore H d2_51 (L' := fun z => #[.val (.ref bl), .val (.int hN.toInt32), .val (.int B.toInt32), .val (.long (32 : Int64)), .second, .val (.int z), .unset]) (fun _ => rfl) (pc' := 53) rfl (fun z0 hz => ?_)
  subst z0
  exact i_one 0 (fl := List.replicate B 0) (dl := List.replicate B 0) (al := List.replicate B 0) H (by simp) (by simp) (by simp) (fun i hi => absurd hi (Nat.not_lt_zero i)) hB hB4 hB1 hh hh1 (by omega)
set_option maxRecDepth 65536 in
set_option maxHeartbeats 40000000 in
theorem met_bof {Z : State} (HT : Tb Z) {F : Hp} (bl fa da ba : Addr) (fl dl : List Int32) (al : List Int64) (h : Int32) (x : Int64) (m : Nat) (lf f : Int32) (hf : fl[m]? = some f) (hm : m < 100) : Met Z y_11 prog_1_method_6_code 3 (some .int) ({ frames := 0, cells := 0, slots := 0, locals := 0 } : Room) [(.ref bl), (.int m.toInt32), (.int lf)] ((ba, ArL Z al) :: (da, ArI Z .int dl) :: (fa, ArI Z .int fl) :: (bl, Obj Z "com/example/remint/remint/BlockLayout" [("com/example/remint/remint/BlockLayout", "height", "I", (.int h)), ("com/example/remint/remint/BlockLayout", "firstDepth", "[I", (.ref fa)), ("com/example/remint/remint/BlockLayout", "depths", "[I", (.ref da)), ("com/example/remint/remint/BlockLayout", "bandAt", "[J", (.ref ba)), ("com/example/remint/remint/BlockLayout", "bytes", "J", (.long x))]) :: F) (fun v M' => v = some (.int ((lf.toUInt32 >>> ((h - f) &&& 31).toUInt32).toInt32)) ∧ M' = ((ba, ArL Z al) :: (da, ArI Z .int dl) :: (fa, ArI Z .int fl) :: (bl, Obj Z "com/example/remint/remint/BlockLayout" [("com/example/remint/remint/BlockLayout", "height", "I", (.int h)), ("com/example/remint/remint/BlockLayout", "firstDepth", "[I", (.ref fa)), ("com/example/remint/remint/BlockLayout", "depths", "[I", (.ref da)), ("com/example/remint/remint/BlockLayout", "bandAt", "[J", (.ref ba)), ("com/example/remint/remint/BlockLayout", "bytes", "J", (.long x))]) :: F)) := by
  refine Met.of HT pl_11 (Ls := #[.val (.ref bl), .val (.int m.toInt32), .val (.int lf)]) (fun m => by first | (simp [entryFrame, mkF, argsToLocals, Value.category]; done) | rfl) (fun k H => ?_)
  refine s_iloadn H d11_0 rfl (pc' := 1) rfl ?_
  refine s_aloadn H d11_1 rfl rfl (pc' := 2) rfl ?_
  refine s_getf H d11_2 (mem (i := 14) rfl) (i := 3) (j := 0) rfl rfl (pc' := 5) rfl ?_
  refine s_aloadn H d11_5 rfl rfl (pc' := 6) rfl ?_
  refine s_getf H d11_6 (mem (i := 21) rfl) (i := 3) (j := 1) rfl rfl (pc' := 9) rfl ?_
  refine s_iloadn H d11_9 rfl (pc' := 10) rfl ?_
  refine s_iaload H d11_10 (i := 2) rfl (x := f) (own_nat (by omega)).2.1 (jn := m) (own_nat (by omega)).1 hf (pc' := 11) rfl ?_
  refine s_isub H d11_11 (pc' := 12) rfl ?_
  refine s_iushr H d11_12 (pc' := 13) rfl ?_
  exact s_iret H d11_13 rfl (Or.inl rfl) (by decide) (by decide) (⟨rfl, rfl⟩)
set_option maxRecDepth 65536 in
set_option maxHeartbeats 40000000 in
theorem met_eb {Z : State} (HT : Tb Z) {F : Hp} (hN : Nat) (hh : hN ≤ 25) (hh1 : 1 ≤ hN) : Met Z y_1 method_2_code 1 (some .int) ({ frames := 0, cells := 0, slots := 0, locals := 0 } : Room) [(.int hN.toInt32)] (F) (fun v M' => v = some (.int (max 1 ((hN + 4) / 6)).toInt32) ∧ M' = F) := by
  refine Met.of HT pl_1 (Ls := #[.val (.int hN.toInt32)]) (fun m => by first | (simp [entryFrame, mkF, argsToLocals, Value.category]; done) | rfl) (fun k H => ?_)
  refine s_iloadn H d1_0 rfl (pc' := 1) rfl ?_
  refine s_bipush H d1_1 (z := (7 : Int32)) (by decide) (pc' := 3) rfl ?_
  refine s_icmp H d1_3 (py := 8) (pc' := 6) q_gt (by decide) rfl (fun c3 => ?_) (fun c3 => ?_)
  · rw [show (7 : Int32) = (7 : Nat).toInt32 from rfl, own_lt (by omega) (by omega)] at c3
    refine s_iloadn H d1_8 rfl (pc' := 9) rfl ?_
    refine s_bipush H d1_9 (z := (13 : Int32)) (by decide) (pc' := 11) rfl ?_
    refine s_icmp H d1_11 (py := 16) (pc' := 14) q_gt (by decide) rfl (fun c11 => ?_) (fun c11 => ?_)
    · rw [show (13 : Int32) = (13 : Nat).toInt32 from rfl, own_lt (by omega) (by omega)] at c11
      refine s_iloadn H d1_16 rfl (pc' := 17) rfl ?_
      refine s_bipush H d1_17 (z := (19 : Int32)) (by decide) (pc' := 19) rfl ?_
      refine s_icmp H d1_19 (py := 24) (pc' := 22) q_gt (by decide) rfl (fun c19 => ?_) (fun c19 => ?_)
      · rw [show (19 : Int32) = (19 : Nat).toInt32 from rfl, own_lt (by omega) (by omega)] at c19
        refine s_iconst H d1_24 (z := (4 : Int32)) (by decide) (pc' := 25) rfl ?_
        exact s_iret H d1_25 rfl (Or.inl rfl) (by decide) (by decide) (⟨by rw [show (max 1 ((hN + 4) / 6)) = 4 from by omega]; rfl, rfl⟩)
      · rw [show (19 : Int32) = (19 : Nat).toInt32 from rfl, own_lt (by omega) (by omega)] at c19
        refine s_iconst H d1_22 (z := (3 : Int32)) (by decide) (pc' := 23) rfl ?_
        exact s_iret H d1_23 rfl (Or.inl rfl) (by decide) (by decide) (⟨by rw [show (max 1 ((hN + 4) / 6)) = 3 from by omega]; rfl, rfl⟩)
    · rw [show (13 : Int32) = (13 : Nat).toInt32 from rfl, own_lt (by omega) (by omega)] at c11
      refine s_iconst H d1_14 (z := (2 : Int32)) (by decide) (pc' := 15) rfl ?_
      exact s_iret H d1_15 rfl (Or.inl rfl) (by decide) (by decide) (⟨by rw [show (max 1 ((hN + 4) / 6)) = 2 from by omega]; rfl, rfl⟩)
  · rw [show (7 : Int32) = (7 : Nat).toInt32 from rfl, own_lt (by omega) (by omega)] at c3
    refine s_iconst H d1_6 (z := (1 : Int32)) (by decide) (pc' := 7) rfl ?_
    exact s_iret H d1_7 rfl (Or.inl rfl) (by decide) (by decide) (⟨by rw [show (max 1 ((hN + 4) / 6)) = 1 from by omega]; rfl, rfl⟩)
set_option maxRecDepth 65536 in
set_option maxHeartbeats 40000000 in
theorem s40 {Z : State} {k : Cx} {i0 i1 i2 lc lf : Int32} (hN B bN : Nat) (H : Ok Z k room_1 (LQ) x code maxLocals ret) (hB0 : B = (max 1 ((hN + 4) / 6))) (hh : hN ≤ 25) (hh1 : 1 ≤ hN) (hb : bN < B) : Go Z k 0 0 ([] : Hp) 40 #[.val (.int i0), .val (.int i1), .val (.int i2), .val (.int hN.toInt32), .val (.int B.toInt32), .val (.int bN.toInt32), .val (.int lc), .val (.int lf), .unset, .unset, .unset, .unset] [] := by
  have hB : 6 * (B - 1) ≤ hN - 1 := by omega
  have hB4 : B ≤ 4 := by omega
  refine s_new H (C := "com/example/remint/remint/BlockLayout") [("com/example/remint/remint/BlockLayout", "height", "I", (.int (0 : Int32))), ("com/example/remint/remint/BlockLayout", "firstDepth", "[I", .null), ("com/example/remint/remint/BlockLayout", "depths", "[I", .null), ("com/example/remint/remint/BlockLayout", "bandAt", "[J", .null), ("com/example/remint/remint/BlockLayout", "bytes", "J", (.long (0 : Int64)))] at_40 (mem (i := 5) rfl) (mem (i := 6) rfl) (mem (i := 7) rfl) (allC ⟨Or.inr (mem (i := 15) rfl), .int, by decide, rfl⟩ (allC ⟨Or.inr (mem (i := 22) rfl), (.array .int), by decide, rfl⟩ (allC ⟨Or.inr (mem (i := 24) rfl), (.array .int), by decide, rfl⟩ (allC ⟨Or.inr (mem (i := 27) rfl), (.array .long), by decide, rfl⟩ (allC ⟨Or.inr (mem (i := 52) rfl), .long, by decide, rfl⟩ allN))))) (by decide) (cn' := 1) (sn' := 5) rfl rfl (by decide) (by decide) (pc' := 43) rfl (fun a1 => ?_)
  refine s_dup H at_43 rfl (pc' := 44) rfl ?_
  refine s_iloadn H at_44 rfl (pc' := 45) rfl ?_
  refine s_init H (met_bi H.tb a1 hN B hB0 hh hh1) at_45 rfl (mem (i := 8) rfl) (mem (i := 9) rfl) (mem (i := 7) rfl) (mem (i := 10) rfl) (by decide) pd_2 rfl (rest := [(.ref a1)]) rfl rfl (by decide) (Nat.le_of_ble_eq_true rfl) (cn' := 4) (sn' := 17) rfl rfl (by decide) (by decide) (pc' := 48) rfl (fun _ _ hq => ?_)
  obtain ⟨fa, da, ba, fl, dl, al, x, lfl, pf, rfl, rfl⟩ := hq
  show Go Z k 4 17 ((ba, ArL Z al) :: (da, ArI Z .int dl) :: (fa, ArI Z .int fl) :: (a1, Obj Z "com/example/remint/remint/BlockLayout" [("com/example/remint/remint/BlockLayout", "height", "I", (.int hN.toInt32)), ("com/example/remint/remint/BlockLayout", "firstDepth", "[I", (.ref fa)), ("com/example/remint/remint/BlockLayout", "depths", "[I", (.ref da)), ("com/example/remint/remint/BlockLayout", "bandAt", "[J", (.ref ba)), ("com/example/remint/remint/BlockLayout", "bytes", "J", (.long x))]) :: []) 48 #[.val (.int i0), .val (.int i1), .val (.int i2), .val (.int hN.toInt32), .val (.int B.toInt32), .val (.int bN.toInt32), .val (.int lc), .val (.int lf), .unset, .unset, .unset, .unset] [(.ref a1)]
  refine s_astore H at_48 (L' := #[.val (.int i0), .val (.int i1), .val (.int i2), .val (.int hN.toInt32), .val (.int B.toInt32), .val (.int bN.toInt32), .val (.int lc), .val (.int lf), .val (.ref a1), .unset, .unset, .unset]) rfl rfl (pc' := 50) rfl ?_
  refine s_aload H at_50 rfl rfl (pc' := 52) rfl ?_
  refine s_virtual H (met_bn H.tb a1 fa da ba fl dl al hN.toInt32 x) at_52 (i := 3) rfl (mem (i := 53) rfl) (mem (i := 47) rfl) (mem (i := 49) rfl) (mem (i := 48) rfl) (mem (i := 7) rfl) (mem (i := 50) rfl) (by decide) pd_9 rfl (rest := []) rfl rfl (by decide) (Nat.le_of_ble_eq_true rfl) (cn' := 4) (sn' := 17) rfl rfl (by decide) (by decide) (pc' := 55) rfl (fun _ _ hq => ?_)
  obtain ⟨rfl, rfl⟩ := hq
  show Go Z k 4 17 ((ba, ArL Z al) :: (da, ArI Z .int dl) :: (fa, ArI Z .int fl) :: (a1, Obj Z "com/example/remint/remint/BlockLayout" [("com/example/remint/remint/BlockLayout", "height", "I", (.int hN.toInt32)), ("com/example/remint/remint/BlockLayout", "firstDepth", "[I", (.ref fa)), ("com/example/remint/remint/BlockLayout", "depths", "[I", (.ref da)), ("com/example/remint/remint/BlockLayout", "bandAt", "[J", (.ref ba)), ("com/example/remint/remint/BlockLayout", "bytes", "J", (.long x))]) :: []) 55 #[.val (.int i0), .val (.int i1), .val (.int i2), .val (.int hN.toInt32), .val (.int B.toInt32), .val (.int bN.toInt32), .val (.int lc), .val (.int lf), .val (.ref a1), .unset, .unset, .unset] [(.int fl.length.toInt32)]
  rw [lfl]
  show Go Z k 4 17 ((ba, ArL Z al) :: (da, ArI Z .int dl) :: (fa, ArI Z .int fl) :: (a1, Obj Z "com/example/remint/remint/BlockLayout" [("com/example/remint/remint/BlockLayout", "height", "I", (.int hN.toInt32)), ("com/example/remint/remint/BlockLayout", "firstDepth", "[I", (.ref fa)), ("com/example/remint/remint/BlockLayout", "depths", "[I", (.ref da)), ("com/example/remint/remint/BlockLayout", "bandAt", "[J", (.ref ba)), ("com/example/remint/remint/BlockLayout", "bytes", "J", (.long x))]) :: []) 55 #[.val (.int i0), .val (.int i1), .val (.int i2), .val (.int hN.toInt32), .val (.int B.toInt32), .val (.int bN.toInt32), .val (.int lc), .val (.int lf), .val (.ref a1), .unset, .unset, .unset] [(.int B.toInt32)]
  refine s_iload H at_55 rfl (pc' := 57) rfl ?_
  refine s_icmp H at_57 (py := 62) (pc' := 60) q_eq (by decide) rfl (fun c57 => ?_) (fun c57 => ?_)
  · refine s_iload H at_62 rfl (pc' := 64) rfl ?_
    refine s_iconst H at_64 (z := (1 : Int32)) (by decide) (pc' := 65) rfl ?_
    refine s_isub H at_65 (pc' := 66) rfl ?_
    refine s_iload H at_66 rfl (pc' := 68) rfl ?_
    refine s_isub H at_68 (pc' := 69) rfl ?_
    refine s_istore H at_69 (L' := fun z => #[.val (.int i0), .val (.int i1), .val (.int i2), .val (.int hN.toInt32), .val (.int B.toInt32), .val (.int bN.toInt32), .val (.int lc), .val (.int lf), .val (.ref a1), .val (.int z), .unset, .unset]) (fun _ => rfl) (pc' := 71) rfl (fun ab h_ab => ?_)
    refine s_iloadn H at_71 rfl (pc' := 72) rfl ?_
    refine s_iconst H at_72 (z := (1 : Int32)) (by decide) (pc' := 73) rfl ?_
    refine s_isub H at_73 (pc' := 74) rfl ?_
    refine s_bipush H at_74 (z := (6 : Int32)) (by decide) (pc' := 76) rfl ?_
    refine s_iload H at_76 rfl (pc' := 78) rfl ?_
    refine s_iconst H at_78 (z := (1 : Int32)) (by decide) (pc' := 79) rfl ?_
    refine s_iadd H at_79 (pc' := 80) rfl ?_
    refine s_imul H at_80 (pc' := 81) rfl ?_
    refine s_static H (met_min H.tb (hN.toInt32 - (1 : Int32)) ((6 : Int32) * (ab + (1 : Int32)))) at_81 (mem (i := 54) rfl) (mem (i := 55) rfl) (mem (i := 18) rfl) (mem (i := 56) rfl) (by decide) pd_10 rfl (rest := []) rfl rfl (by decide) (Nat.le_of_ble_eq_true rfl) (cn' := 4) (sn' := 17) rfl rfl (by decide) (by decide) (pc' := 84) rfl (fun _ _ hq => ?_)
    obtain ⟨r2, hr2, rfl, rfl⟩ := hq
    show Go Z k 4 17 ((ba, ArL Z al) :: (da, ArI Z .int dl) :: (fa, ArI Z .int fl) :: (a1, Obj Z "com/example/remint/remint/BlockLayout" [("com/example/remint/remint/BlockLayout", "height", "I", (.int hN.toInt32)), ("com/example/remint/remint/BlockLayout", "firstDepth", "[I", (.ref fa)), ("com/example/remint/remint/BlockLayout", "depths", "[I", (.ref da)), ("com/example/remint/remint/BlockLayout", "bandAt", "[J", (.ref ba)), ("com/example/remint/remint/BlockLayout", "bytes", "J", (.long x))]) :: []) 84 #[.val (.int i0), .val (.int i1), .val (.int i2), .val (.int hN.toInt32), .val (.int B.toInt32), .val (.int bN.toInt32), .val (.int lc), .val (.int lf), .val (.ref a1), .val (.int ab), .unset, .unset] [(.int r2)]
    have es : r2 = hN.toInt32 - (fv hN B bN).toInt32 := by
      apply Int32.toInt_inj.mp
      have fb : fv hN B bN ≤ hN := by unfold fv; omega
      rw [own_subN fb (by omega), (own_nat (by omega)).2.2, hr2, show hN.toInt32 - 1 = (hN - 1).toInt32 from own_subN (n := 1) (by omega) (by omega), (own_nat (by omega)).2.2]
      have e1 : B.toInt32 - 1 = (B - 1).toInt32 := own_subN (n := 1) (by omega) (by omega)
      have e2 : (B - 1).toInt32 - bN.toInt32 = (B - 1 - bN).toInt32 := own_subN (by omega) (by omega)
      have e3 : (B - 1 - bN).toInt32 + 1 = (B - 1 - bN + 1).toInt32 := own_succ _
      have e4 : (6 : Int32) * (B - 1 - bN + 1).toInt32 = (6 * (B - 1 - bN + 1)).toInt32 := (Int32.ofNat_mul 6 (B - 1 - bN + 1)).symm
      rw [h_ab, e1, e2, e3, e4, (own_nat (by omega)).2.2]
      unfold fv; omega
    rw [es]
    show Go Z k 4 17 ((ba, ArL Z al) :: (da, ArI Z .int dl) :: (fa, ArI Z .int fl) :: (a1, Obj Z "com/example/remint/remint/BlockLayout" [("com/example/remint/remint/BlockLayout", "height", "I", (.int hN.toInt32)), ("com/example/remint/remint/BlockLayout", "firstDepth", "[I", (.ref fa)), ("com/example/remint/remint/BlockLayout", "depths", "[I", (.ref da)), ("com/example/remint/remint/BlockLayout", "bandAt", "[J", (.ref ba)), ("com/example/remint/remint/BlockLayout", "bytes", "J", (.long x))]) :: []) 84 #[.val (.int i0), .val (.int i1), .val (.int i2), .val (.int hN.toInt32), .val (.int B.toInt32), .val (.int bN.toInt32), .val (.int lc), .val (.int lf), .val (.ref a1), .val (.int ab), .unset, .unset] [(.int (hN.toInt32 - (fv hN B bN).toInt32))]
    refine s_istore H at_84 (L' := fun z => #[.val (.int i0), .val (.int i1), .val (.int i2), .val (.int hN.toInt32), .val (.int B.toInt32), .val (.int bN.toInt32), .val (.int lc), .val (.int lf), .val (.ref a1), .val (.int ab), .val (.int z), .unset]) (fun _ => rfl) (pc' := 86) rfl (fun z0 hz => ?_)
    subst z0
    refine s_iload H at_86 rfl (pc' := 88) rfl ?_
    refine s_iload H at_88 rfl (pc' := 90) rfl ?_
    refine s_iushr H at_90 (pc' := 91) rfl ?_
    refine s_istore H at_91 (L' := fun z => #[.val (.int i0), .val (.int i1), .val (.int i2), .val (.int hN.toInt32), .val (.int B.toInt32), .val (.int bN.toInt32), .val (.int lc), .val (.int lf), .val (.ref a1), .val (.int ab), .val (.int (hN.toInt32 - (fv hN B bN).toInt32)), .val (.int z)]) (fun _ => rfl) (pc' := 93) rfl (fun ex h_ex => ?_)
    refine s_aload H at_93 rfl rfl (pc' := 95) rfl ?_
    refine s_iload H at_95 rfl (pc' := 97) rfl ?_
    refine s_iload H at_97 rfl (pc' := 99) rfl ?_
    refine s_virtual H (met_bof H.tb a1 fa da ba fl dl al hN.toInt32 x bN lf (fv hN B bN).toInt32 (pf bN hb) (by omega)) at_99 (i := 3) rfl (mem (i := 57) rfl) (mem (i := 58) rfl) (mem (i := 60) rfl) (mem (i := 59) rfl) (mem (i := 7) rfl) (mem (i := 61) rfl) (by decide) pd_11 rfl (rest := []) rfl rfl (by decide) (Nat.le_of_ble_eq_true rfl) (cn' := 4) (sn' := 17) rfl rfl (by decide) (by decide) (pc' := 102) rfl (fun _ _ hq => ?_)
    obtain ⟨rfl, rfl⟩ := hq
    show Go Z k 4 17 ((ba, ArL Z al) :: (da, ArI Z .int dl) :: (fa, ArI Z .int fl) :: (a1, Obj Z "com/example/remint/remint/BlockLayout" [("com/example/remint/remint/BlockLayout", "height", "I", (.int hN.toInt32)), ("com/example/remint/remint/BlockLayout", "firstDepth", "[I", (.ref fa)), ("com/example/remint/remint/BlockLayout", "depths", "[I", (.ref da)), ("com/example/remint/remint/BlockLayout", "bandAt", "[J", (.ref ba)), ("com/example/remint/remint/BlockLayout", "bytes", "J", (.long x))]) :: []) 102 #[.val (.int i0), .val (.int i1), .val (.int i2), .val (.int hN.toInt32), .val (.int B.toInt32), .val (.int bN.toInt32), .val (.int lc), .val (.int lf), .val (.ref a1), .val (.int ab), .val (.int (hN.toInt32 - (fv hN B bN).toInt32)), .val (.int ex)] [(.int ((lf.toUInt32 >>> ((hN.toInt32 - (fv hN B bN).toInt32) &&& 31).toUInt32).toInt32))]
    refine s_iload H at_102 rfl (pc' := 104) rfl ?_
    refine s_icmp H at_104 (py := 111) (pc' := 107) q_ne (by decide) rfl (fun c104 => ?_) (fun c104 => ?_)
    · refine s_iconst H at_111 (z := (0 : Int32)) (by decide) (pc' := 112) rfl ?_
      exfalso
      exact absurd h_ex.symm c104
    · refine s_iconst H at_107 (z := (1 : Int32)) (by decide) (pc' := 108) rfl ?_
      refine s_goto H at_108 (pc' := 112) (by decide) ?_
      exact s_iret H at_112 rfl (by simp) (by decide) (by decide) (rfl)
  · exact absurd rfl c57
set_option maxRecDepth 65536 in
set_option maxHeartbeats 40000000 in
theorem s10 {Z : State} {k : Cx} {i0 i1 i2 : Int32} (hN : Nat) (H : Ok Z k room_1 (LQ) x code maxLocals ret) (hh : hN ≤ 25) (hh1 : 1 ≤ hN) : Go Z k 0 0 ([] : Hp) 10 #[.val (.int i0), .val (.int i1), .val (.int i2), .val (.int hN.toInt32), .unset, .unset, .unset, .unset, .unset, .unset, .unset, .unset] [] := by
  refine s_iloadn H at_10 rfl (pc' := 11) rfl ?_
  refine s_static H (met_eb H.tb hN hh hh1) at_11 (mem (i := 1) rfl) (mem (i := 2) rfl) (mem (i := 3) rfl) (mem (i := 4) rfl) (by decide) pd_1 rfl (rest := []) rfl rfl (by decide) (Nat.le_of_ble_eq_true rfl) (cn' := 0) (sn' := 0) rfl rfl (by decide) (by decide) (pc' := 14) rfl (fun _ _ hq => ?_)
  obtain ⟨rfl, rfl⟩ := hq
  show Go Z k 0 0 ([] : Hp) 14 #[.val (.int i0), .val (.int i1), .val (.int i2), .val (.int hN.toInt32), .unset, .unset, .unset, .unset, .unset, .unset, .unset, .unset] [(.int (max 1 ((hN + 4) / 6)).toInt32)]
  refine s_istore H at_14 (L' := fun z => #[.val (.int i0), .val (.int i1), .val (.int i2), .val (.int hN.toInt32), .val (.int z), .unset, .unset, .unset, .unset, .unset, .unset, .unset]) (fun _ => rfl) (pc' := 16) rfl (fun z0 hz => ?_)
  subst z0
  refine s_iloadn H at_16 rfl (pc' := 17) rfl ?_
  refine s_ldc H at_17 (mem (i := 0) rfl) (pc' := 19) rfl ?_
  refine s_iand H at_19 (pc' := 20) rfl ?_
  refine s_iload H at_20 rfl (pc' := 22) rfl ?_
  refine s_irem H at_22 (own_ne0 (by omega) (by omega)) (pc' := 23) rfl ?_
  refine s_istore H at_23 (L' := fun z => #[.val (.int i0), .val (.int i1), .val (.int i2), .val (.int hN.toInt32), .val (.int (max 1 ((hN + 4) / 6)).toInt32), .val (.int z), .unset, .unset, .unset, .unset, .unset, .unset]) (fun _ => rfl) (pc' := 25) rfl (fun band h_band => ?_)
  refine s_iconst H at_25 (z := (1 : Int32)) (by decide) (pc' := 26) rfl ?_
  refine s_iloadn H at_26 rfl (pc' := 27) rfl ?_
  refine s_iconst H at_27 (z := (1 : Int32)) (by decide) (pc' := 28) rfl ?_
  refine s_isub H at_28 (pc' := 29) rfl ?_
  refine s_ishl H at_29 (pc' := 30) rfl ?_
  refine s_istore H at_30 (L' := fun z => #[.val (.int i0), .val (.int i1), .val (.int i2), .val (.int hN.toInt32), .val (.int (max 1 ((hN + 4) / 6)).toInt32), .val (.int band), .val (.int z), .unset, .unset, .unset, .unset, .unset]) (fun _ => rfl) (pc' := 32) rfl (fun lc h_lc => ?_)
  refine s_iloadn H at_32 rfl (pc' := 33) rfl ?_
  refine s_iload H at_33 rfl (pc' := 35) rfl ?_
  refine s_iconst H at_35 (z := (1 : Int32)) (by decide) (pc' := 36) rfl ?_
  refine s_isub H at_36 (pc' := 37) rfl ?_
  refine s_iand H at_37 (pc' := 38) rfl ?_
  refine s_istore H at_38 (L' := fun z => #[.val (.int i0), .val (.int i1), .val (.int i2), .val (.int hN.toInt32), .val (.int (max 1 ((hN + 4) / 6)).toInt32), .val (.int band), .val (.int lc), .val (.int z), .unset, .unset, .unset, .unset]) (fun _ => rfl) (pc' := 40) rfl (fun lf h_lf => ?_)
  have m1 := c_mask i1 2147483647 31 (by decide) (by decide)
  have m2 := (c_iremV (i1 &&& 2147483647) (max 1 ((hN + 4) / 6)).toInt32).1 (by omega) (by rw [(own_nat (by omega)).2.2]; omega)
  rw [← h_band, (own_nat (by omega)).2.2] at m2
  have tb : band = band.toInt.toNat.toInt32 := by apply Int32.toInt_inj.mp; rw [(own_nat (by omega)).2.2]; omega
  rw [tb]
  exact s40 hN (max 1 ((hN + 4) / 6)) band.toInt.toNat H rfl hh hh1 (by omega)
set_option maxRecDepth 65536 in
set_option maxHeartbeats 40000000 in
theorem s0 {Z : State} {k : Cx} {i0 i1 i2 : Int32} (H : Ok Z k room_1 (LQ) x code maxLocals ret)  : Go Z k 0 0 ([] : Hp) 0 #[.val (.int i0), .val (.int i1), .val (.int i2), .unset, .unset, .unset, .unset, .unset, .unset, .unset, .unset, .unset] [] := by
  refine s_iconst H at_0 (z := (1 : Int32)) (by decide) (pc' := 1) rfl ?_
  refine s_iloadn H at_1 rfl (pc' := 2) rfl ?_
  refine s_ldc H at_2 (mem (i := 0) rfl) (pc' := 4) rfl ?_
  refine s_iand H at_4 (pc' := 5) rfl ?_
  refine s_bipush H at_5 (z := (25 : Int32)) (by decide) (pc' := 7) rfl ?_
  refine s_irem H at_7 (by decide) (pc' := 8) rfl ?_
  refine s_iadd H at_8 (pc' := 9) rfl ?_
  refine s_istoren H at_9 (L' := fun z => #[.val (.int i0), .val (.int i1), .val (.int i2), .val (.int z), .unset, .unset, .unset, .unset, .unset, .unset, .unset, .unset]) (fun _ => rfl) (pc' := 10) rfl (fun h h_h => ?_)
  have m1 := c_mask i0 2147483647 31 (by decide) (by decide)
  have m2 := (c_irem (i0 &&& 2147483647) 25 25 (by decide)).1 (by omega)
  have m3 := c_iadd 1 ((i0 &&& 2147483647) % 25)
  rw [← h_h] at m3
  have r3 := rng32 h
  have o1 : (1 : Int32).toInt = 1 := by decide
  have th : h = h.toInt.toNat.toInt32 := by apply Int32.toInt_inj.mp; rw [(own_nat (by omega)).2.2]; omega
  rw [th]
  exact s10 _ H (by omega) (by omega)
theorem pl_0 : plainFor x = true := plainFor_of_name (by first | (simp [plainName, overriddenIn, x]; done) | decide +kernel)
set_option maxRecDepth 65536 in
set_option maxHeartbeats 40000000 in
theorem met_law {Z : State} (HT : Tb Z) (l : Launch) (ws : List Jvm.Cond) (i0 : Int32) (i1 : Int32) (i2 : Int32) (h0 : Heap) (hO : Own Z h0 []) :
    MetFree l x (head1 (Jvm.Cond.code x code maxLocals ret :: ws) room_1) (fun a U => a = [(.int i0), (.int i1), (.int i2)].toArray ∧ Z.Warmed39 U.vm ∧ U.heap = h0) (fun _ _ _ _ _ => True) (fun _ U o U' => ∃ v L, o = .returned v ∧ (Fr Z.heap.size L ∧ ∃ M, LQ v M ∧ Own Z U'.heap M) ∧ FrameEnd U o U' L room_1.cells room_1.slots) :=
  met_of l HT pl_0 (Ls := #[.val (.int i0), .val (.int i1), .val (.int i2), .unset, .unset, .unset, .unset, .unset, .unset, .unset, .unset, .unset]) (fun m => by first | (simp [entryFrame, mkF, argsToLocals, Value.category, maxLocals]; done) | rfl) hO (fun k H => s0 H)
set_option maxRecDepth 65536 in
set_option maxHeartbeats 40000000 in
theorem comes_1 {Post : Tables → Env → Array Value → State → Outcome → State → Prop} (hpost : ∀ tb e args s v u, (limb_1_1.after args s (.returned v) u = true ∧ limb_1_2.after args s (.returned v) u = true ∧ True) → FrameEnd s (.returned v) u (Jvm.fieldLocs frame_1_writes args s ++ Jvm.arrayLocs frame_1_arrays args s ++ Jvm.staticLocs frame_1_statics s) 16 128 → Post tb e args s (.returned v) u) :
    ArmFor flags0 classFile x code maxLocals ret World_1 tables_1 room_1 Calls_1 rest_1 Pre_1 Post := by
  intro l hfl _ _ p e ha hc hk s m args below hf hA hF happ hP
  obtain ⟨hcalls, hrest, hpre⟩ := hP
  obtain ⟨-, -, -, hnamed, -, -, -, hat⟩ := (Spec.applies_iff hf).mp happ
  obtain ⟨hg, hn⟩ := and_e (Cond.before_iff.mp (show (Jvm.Cond.and given_1 narrow_1).before args s = true from hpre))
  obtain ⟨hcnt, hg0⟩ := and_e hg
  obtain ⟨hv0, hg1⟩ := and_e hg0
  obtain ⟨hv1, hg2⟩ := and_e hg1
  obtain ⟨w0, w1, w2, rfl⟩ : ∃ w0 w1 w2 : Value, args = #[w0, w1, w2] := by
    have hs : args.size = 3 := by simpa [Cond.value, given_1] using hcnt
    obtain ⟨L⟩ := args
    match L, hs with
    | [w0, w1, w2], _ => exact ⟨w0, w1, w2, rfl⟩
  have hw := fun d (hd : d ∈ tables_1) => atoms_spec (ws := Jvm.Cond.code x code maxLocals ret :: tables_1) hat d (List.mem_cons_of_mem _ hd)
  obtain ⟨i0, ei0⟩ := is_v hv0
  obtain rfl : w0 = (.int i0) := Option.some.inj ei0
  obtain ⟨i1, ei1⟩ := is_v hv1
  obtain rfl : w1 = (.int i1) := Option.some.inj ei1
  obtain ⟨i2, ei2⟩ := is_v hg2
  obtain rfl : w2 = (.int i2) := Option.some.inj ei2
  have hO : Own s s.heap [] := ⟨⟨Nat.le_refl _, fun _ _ q => q⟩, fun i x hx => (by cases hx), fun i j x y hx => (by cases hx)⟩
  obtain ⟨n, o, h1, h2, h3, v, L, rfl, ⟨N, M, hv, -⟩, hq⟩ := met_law (Z := s) ⟨_, hw⟩ l tables_1 i0 i1 i2 s.heap hO p e ha hc hk s m _ below hf ((Spec.applies_iff_loose hf).mp happ).1 ⟨rfl, State.Warmed39.refl s, rfl⟩ trivial
  obtain rfl : v = some (.int 1) := hv
  exact ⟨n, _, h1, h2, h3, hpost _ _ _ _ _ _ ⟨Cond.after_iff.mpr rfl, Cond.after_iff.mpr (eq_i res_at (Term.int_eval (1)) rfl), trivial⟩ ⟨hq.1, hq.2.1, (hq.2.2.sift fun y hy => Or.inr (N y hy)).mono (by decide) (by decide)⟩⟩
theorem main_1_1 : Claimed_1_1 := comes_1 fun _ _ _ _ _ _ h hF => ⟨h.1, hF⟩
theorem main_1_2 : Claimed_1_2 := comes_1 fun _ _ _ _ _ _ h hF => ⟨h.2.1, hF⟩
end Jvm.Pilot.@@N@@
namespace Jvm.Pilot.@@N@@
open Jvm Jvm.ClassFile Sem Op Lib Jvm.Free Jvm.Stand Jvm.Pilot.@@N@@.Jvm.D
/-! MADE BY PROGRAM (witnessworld.py) out of the Statement's table words and the real class files: 12 classes; the members and pool entries that the words name. The judged class is class 1, her method 2. -/
namespace start1
open Jvm.ClassFile
def u (s : String) : CpInfo := .utf8 (stringToUtf16 s)
/-- a pool by its gaps: so many unusable entries, then the entry; so many at the end -/
def gap : Nat → List CpInfo → List CpInfo
  | 0, r => r
  | n + 1, r => .unusable :: gap n r
def poolList (es : List (Nat × CpInfo)) (last : Nat) : List CpInfo := es.foldr (fun e r => gap e.1 (e.2 :: r)) (gap last [])
def pool (es : List (Nat × CpInfo)) (last : Nat) : Array CpInfo := ⟨poolList es last⟩
def fileOf (pool : Array CpInfo) (this : Nat) (attrs : Array Attribute := #[]) (ms : Array MethodInfo := #[]) (fl : Nat := 33) (sup : Nat := 0) (ifs : Array Nat := #[]) (fds : Array FieldInfo := #[]) : ClassFile where
  minorVersion := 0
  majorVersion := 65
  constantPool := pool
  accessFlags := fl
  thisClass := this
  superClass := sup
  interfaces := ifs
  fields := fds
  methods := ms
  attributes := attrs
def plain (name : String) (sup : Option ClassId) : Class where
  name := name
  kind := .ordinary
  loader := none
  accessFlags := 33
  super := sup
  interfaces := #[]
  cf := none
  fields := #[]
  methods := #[]
  instanceTypes := #[]
  staticTypes := #[]
  resolved := #[]
  callSites := []
  init := .initialized
  statics := none
  mirror := none

def pool0 : Array CpInfo := pool [(5, u "<init>"), (0, u "()V"), (1, .class_ 10), (1, u "java/lang/Object")] 113

def k0c0 : Code := { maxStack := 0, maxLocals := 1, code := object_method_1_code, exceptionTable := #[], attributes := #[] }
def k0m0 : Method := { name := "<init>", desc := "()V", sig := { parameters := [], returnType := none }, accessFlags := 1, code := some k0c0 }
/-- java/lang/Object -/
def k0 : Class := { plain "java/lang/Object" none with
  accessFlags := 33
  interfaces := #[]
  cf := some (fileOf pool0 8 #[] #[{ accessFlags := 1, nameIndex := 5, descriptorIndex := 6, attributes := #[] }] 33 0 #[] #[])
  fields := #[]
  methods := #[k0m0]
  instanceTypes := #[]
  staticTypes := #[]
  resolved := Array.replicate 124 none
  statics := none }

def pool1 : Array CpInfo := pool [(2, .class_ 4), (1, u "java/lang/Object"), (0, u "<init>"), (0, u "()V"), (0, .integer 2147483647), (0, .methodref 9 10), (0, .class_ 11), (0, .nameAndType 12 13), (0, u "com/example/remint/remint/BlockLayoutBlockOfPinLaw"), (0, u "expectedBands"), (0, u "(I)I"), (0, .class_ 15), (0, u "com/example/remint/remint/BlockLayout"), (0, .methodref 14 17), (0, .nameAndType 5 18), (0, u "(I)V"), (0, .methodref 14 20), (0, .nameAndType 21 22), (0, u "bands"), (0, u "()I"), (0, .methodref 24 25), (0, .class_ 26), (0, .nameAndType 27 28), (0, u "java/lang/Math"), (0, u "min"), (0, u "(II)I"), (0, .methodref 14 30), (0, .nameAndType 31 28), (0, u "blockOf"), (3, u "law"), (0, u "(III)Z")] 2

def k1m0 : Method := { name := "<init>", desc := "()V", sig := { parameters := [], returnType := none }, accessFlags := 1, code := none }
def k1c1 : Code := { maxStack := 2, maxLocals := 1, code := method_2_code, exceptionTable := #[], attributes := #[] }
def k1m1 : Method := { name := "expectedBands", desc := "(I)I", sig := { parameters := [.int], returnType := some .int }, accessFlags := 10, code := some k1c1 }
def k1c2 : Code := { maxStack := 4, maxLocals := 12, code := code, exceptionTable := #[], attributes := #[] }
def k1m2 : Method := { name := "law", desc := "(III)Z", sig := { parameters := [.int, .int, .int], returnType := some .boolean }, accessFlags := 9, code := some k1c2 }
/-- com/example/remint/remint/BlockLayoutBlockOfPinLaw -/
def k1 : Class := { plain "com/example/remint/remint/BlockLayoutBlockOfPinLaw" (some 0) with
  accessFlags := 49
  interfaces := #[]
  cf := some (fileOf pool1 9 #[] #[{ accessFlags := 1, nameIndex := 5, descriptorIndex := 6, attributes := #[] }, { accessFlags := 10, nameIndex := 12, descriptorIndex := 13, attributes := #[] }, { accessFlags := 9, nameIndex := 35, descriptorIndex := 36, attributes := #[] }] 49 2 #[] #[])
  fields := #[]
  methods := #[k1m0, k1m1, k1m2]
  instanceTypes := #[]
  staticTypes := #[]
  resolved := Array.replicate 39 none
  statics := none }

def pool2 : Array CpInfo := pool [(5, .methodref 6 7), (0, .class_ 8), (0, .nameAndType 9 10), (0, u "java/lang/Object"), (0, u "<init>"), (0, u "()V"), (0, .fieldref 12 13), (0, .class_ 14), (0, .nameAndType 15 16), (0, u "com/example/remint/remint/BlockLayout"), (0, u "height"), (0, u "I"), (0, .methodref 18 19), (0, .class_ 20), (0, .nameAndType 21 22), (0, u "java/lang/Math"), (0, u "max"), (0, u "(II)I"), (0, .fieldref 12 24), (0, .nameAndType 25 26), (0, u "firstDepth"), (0, u "[I"), (0, .fieldref 12 28), (0, .nameAndType 29 26), (0, u "depths"), (0, .fieldref 12 31), (0, .nameAndType 32 33), (0, u "bandAt"), (0, u "[J"), (0, .long 32), (1, .methodref 12 37), (0, .nameAndType 38 39), (0, u "blockCount"), (0, u "(I)I"), (0, .methodref 12 41), (0, .nameAndType 42 39), (0, u "blockBytes"), (0, .fieldref 12 44), (0, .nameAndType 45 46), (0, u "bytes"), (0, u "J"), (0, .methodref 12 48), (0, .nameAndType 49 39), (0, u "values"), (0, .methodref 12 51), (0, .nameAndType 52 39), (0, u "bounds"), (2, u "blockOf"), (6, .methodref 12 63), (0, .nameAndType 64 65), (0, u "bands"), (0, u "()I"), (22, u "(I)V"), (8, u "BAND_DEPTHS"), (2, u "BOUND_BYTES")] 22

def k2c0 : Code := { maxStack := 6, maxLocals := 7, code := prog_1_method_1_code, exceptionTable := #[], attributes := #[] }
def k2m0 : Method := { name := "<init>", desc := "(I)V", sig := { parameters := [.int], returnType := none }, accessFlags := 0, code := some k2c0 }
def k2c1 : Code := { maxStack := 1, maxLocals := 1, code := prog_1_method_3_code, exceptionTable := #[], attributes := #[] }
def k2m1 : Method := { name := "bands", desc := "()I", sig := { parameters := [], returnType := some .int }, accessFlags := 0, code := some k2c1 }
def k2c2 : Code := { maxStack := 3, maxLocals := 2, code := prog_1_method_4_code, exceptionTable := #[], attributes := #[] }
def k2m2 : Method := { name := "blockBytes", desc := "(I)I", sig := { parameters := [.int], returnType := some .int }, accessFlags := 0, code := some k2c2 }
def k2c3 : Code := { maxStack := 4, maxLocals := 3, code := prog_1_method_6_code, exceptionTable := #[], attributes := #[] }
def k2m3 : Method := { name := "blockOf", desc := "(II)I", sig := { parameters := [.int, .int], returnType := some .int }, accessFlags := 0, code := some k2c3 }
def k2c4 : Code := { maxStack := 3, maxLocals := 2, code := prog_1_method_11_code, exceptionTable := #[], attributes := #[] }
def k2m4 : Method := { name := "blockCount", desc := "(I)I", sig := { parameters := [.int], returnType := some .int }, accessFlags := 2, code := some k2c4 }
def k2c5 : Code := { maxStack := 3, maxLocals := 2, code := prog_1_method_12_code, exceptionTable := #[], attributes := #[] }
def k2m5 : Method := { name := "values", desc := "(I)I", sig := { parameters := [.int], returnType := some .int }, accessFlags := 2, code := some k2c5 }
def k2c6 : Code := { maxStack := 3, maxLocals := 2, code := prog_1_method_13_code, exceptionTable := #[], attributes := #[] }
def k2m6 : Method := { name := "bounds", desc := "(I)I", sig := { parameters := [.int], returnType := some .int }, accessFlags := 2, code := some k2c6 }
/-- com/example/remint/remint/BlockLayout -/
def k2 : Class := { plain "com/example/remint/remint/BlockLayout" (some 0) with
  accessFlags := 48
  interfaces := #[]
  cf := some (fileOf pool2 12 #[] #[{ accessFlags := 0, nameIndex := 9, descriptorIndex := 88, attributes := #[] }, { accessFlags := 0, nameIndex := 64, descriptorIndex := 65, attributes := #[] }, { accessFlags := 0, nameIndex := 42, descriptorIndex := 39, attributes := #[] }, { accessFlags := 0, nameIndex := 55, descriptorIndex := 22, attributes := #[] }, { accessFlags := 2, nameIndex := 38, descriptorIndex := 39, attributes := #[] }, { accessFlags := 2, nameIndex := 49, descriptorIndex := 39, attributes := #[] }, { accessFlags := 2, nameIndex := 52, descriptorIndex := 39, attributes := #[] }] 48 6 #[] #[{ accessFlags := 24, nameIndex := 97, descriptorIndex := 16, attributes := #[] }, { accessFlags := 26, nameIndex := 100, descriptorIndex := 16, attributes := #[] }, { accessFlags := 18, nameIndex := 15, descriptorIndex := 16, attributes := #[] }, { accessFlags := 18, nameIndex := 25, descriptorIndex := 26, attributes := #[] }, { accessFlags := 18, nameIndex := 29, descriptorIndex := 26, attributes := #[] }, { accessFlags := 18, nameIndex := 32, descriptorIndex := 33, attributes := #[] }, { accessFlags := 18, nameIndex := 45, descriptorIndex := 46, attributes := #[] }])
  fields := #[{ name := "BAND_DEPTHS", type := .int, accessFlags := 24, slot := 0, constantValue := 0 }, { name := "BOUND_BYTES", type := .int, accessFlags := 26, slot := 1, constantValue := 0 }, { name := "height", type := .int, accessFlags := 18, slot := 0, constantValue := 0 }, { name := "firstDepth", type := (.array .int), accessFlags := 18, slot := 1, constantValue := 0 }, { name := "depths", type := (.array .int), accessFlags := 18, slot := 2, constantValue := 0 }, { name := "bandAt", type := (.array .long), accessFlags := 18, slot := 3, constantValue := 0 }, { name := "bytes", type := .long, accessFlags := 18, slot := 4, constantValue := 0 }]
  methods := #[k2m0, k2m1, k2m2, k2m3, k2m4, k2m5, k2m6]
  instanceTypes := #[.int, (.array .int), (.array .int), (.array .long), .long]
  staticTypes := #[.int, .int]
  resolved := Array.replicate 123 none
  statics := none }

def pool3 : Array CpInfo := pool [(1, .class_ 2), (0, u "java/lang/Math"), (1, .class_ 6), (1, u "java/lang/Object"), (0, u "<init>"), (0, u "()V"), (89, .class_ 100), (1, u "java/lang/Math$RandomNumberGeneratorHolder"), (71, u "negativeZeroFloatBits"), (0, u "J"), (2, u "negativeZeroDoubleBits"), (21, u "max"), (2, u "min"), (43, u "$assertionsDisabled"), (0, u "Z"), (88, u "(II)I"), (2, u "twoToTheDoubleScaleDown"), (0, u "D"), (4, u "twoToTheDoubleScaleUp"), (9, u "E"), (3, u "PI"), (2, u "TAU"), (2, u "DEGREES_TO_RADIANS"), (0, u "RADIANS_TO_DEGREES")] 94

def k3m0 : Method := { name := "<init>", desc := "()V", sig := { parameters := [], returnType := none }, accessFlags := 2, code := none }
def k3c1 : Code := { maxStack := 2, maxLocals := 2, code := jdk_29_method_65_code, exceptionTable := #[], attributes := #[] }
def k3m1 : Method := { name := "max", desc := "(II)I", sig := { parameters := [.int, .int], returnType := some .int }, accessFlags := 9, code := some k3c1 }
def k3c2 : Code := { maxStack := 2, maxLocals := 2, code := jdk_29_method_69_code, exceptionTable := #[], attributes := #[] }
def k3m2 : Method := { name := "min", desc := "(II)I", sig := { parameters := [.int, .int], returnType := some .int }, accessFlags := 9, code := some k3c2 }
/-- java/lang/Math -/
def k3 : Class := { plain "java/lang/Math" (some 0) with
  accessFlags := 49
  interfaces := #[]
  cf := some (fileOf pool3 1 #[.nestMembers #[98]] #[{ accessFlags := 2, nameIndex := 7, descriptorIndex := 8, attributes := #[] }, { accessFlags := 9, nameIndex := 198, descriptorIndex := 335, attributes := #[] }, { accessFlags := 9, nameIndex := 201, descriptorIndex := 335, attributes := #[] }] 49 4 #[] #[{ accessFlags := 25, nameIndex := 354, descriptorIndex := 339, attributes := #[] }, { accessFlags := 25, nameIndex := 358, descriptorIndex := 339, attributes := #[] }, { accessFlags := 25, nameIndex := 361, descriptorIndex := 339, attributes := #[] }, { accessFlags := 26, nameIndex := 364, descriptorIndex := 339, attributes := #[] }, { accessFlags := 26, nameIndex := 365, descriptorIndex := 339, attributes := #[] }, { accessFlags := 26, nameIndex := 172, descriptorIndex := 173, attributes := #[] }, { accessFlags := 26, nameIndex := 176, descriptorIndex := 173, attributes := #[] }, { accessFlags := 8, nameIndex := 344, descriptorIndex := 339, attributes := #[] }, { accessFlags := 8, nameIndex := 338, descriptorIndex := 339, attributes := #[] }, { accessFlags := 4120, nameIndex := 245, descriptorIndex := 246, attributes := #[] }])
  fields := #[{ name := "E", type := .double, accessFlags := 25, slot := 0, constantValue := 0 }, { name := "PI", type := .double, accessFlags := 25, slot := 1, constantValue := 0 }, { name := "TAU", type := .double, accessFlags := 25, slot := 2, constantValue := 0 }, { name := "DEGREES_TO_RADIANS", type := .double, accessFlags := 26, slot := 3, constantValue := 0 }, { name := "RADIANS_TO_DEGREES", type := .double, accessFlags := 26, slot := 4, constantValue := 0 }, { name := "negativeZeroFloatBits", type := .long, accessFlags := 26, slot := 5, constantValue := 0 }, { name := "negativeZeroDoubleBits", type := .long, accessFlags := 26, slot := 6, constantValue := 0 }, { name := "twoToTheDoubleScaleUp", type := .double, accessFlags := 8, slot := 7, constantValue := 0 }, { name := "twoToTheDoubleScaleDown", type := .double, accessFlags := 8, slot := 8, constantValue := 0 }, { name := "$assertionsDisabled", type := .boolean, accessFlags := 4120, slot := 9, constantValue := 0 }]
  methods := #[k3m0, k3m1, k3m2]
  instanceTypes := #[]
  staticTypes := #[.double, .double, .double, .double, .double, .long, .long, .double, .double, .boolean]
  resolved := Array.replicate 460 none
  statics := none }

def pool4 : Array CpInfo := pool [(1, u "java/lang/Cloneable"), (0, .class_ 1), (0, u "java/lang/Object"), (0, .class_ 3)] 3

/-- java/lang/Cloneable -/
def k4 : Class := { plain "java/lang/Cloneable" (some 0) with
  accessFlags := 1537
  interfaces := #[]
  cf := some (fileOf pool4 2 #[] #[] 1537 4 #[] #[])
  fields := #[]
  methods := #[]
  instanceTypes := #[]
  staticTypes := #[]
  resolved := Array.replicate 8 none
  statics := none }

def pool5 : Array CpInfo := pool [(1, u "java/io/Serializable"), (0, .class_ 1), (0, u "java/lang/Object"), (0, .class_ 3)] 3

/-- java/io/Serializable -/
def k5 : Class := { plain "java/io/Serializable" (some 0) with
  accessFlags := 1537
  interfaces := #[]
  cf := some (fileOf pool5 2 #[] #[] 1537 4 #[] #[])
  fields := #[]
  methods := #[]
  instanceTypes := #[]
  staticTypes := #[]
  resolved := Array.replicate 8 none
  statics := none }

/-- the primitive byte -/
def k6 : Class := { plain "byte" none with kind := .primitive 'B', accessFlags := 0x411 }
/-- [B -/
def k7 : Class := { plain "[B" (some 0) with kind := .array 6 .byte, interfaces := #[4, 5], accessFlags := 1041 }

/-- the primitive int -/
def k8 : Class := { plain "int" none with kind := .primitive 'I', accessFlags := 0x411 }
/-- [I -/
def k9 : Class := { plain "[I" (some 0) with kind := .array 8 .int, interfaces := #[4, 5], accessFlags := 1041 }

/-- the primitive long -/
def k10 : Class := { plain "long" none with kind := .primitive 'J', accessFlags := 0x411 }
/-- [J -/
def k11 : Class := { plain "[J" (some 0) with kind := .array 10 .long, interfaces := #[4, 5], accessFlags := 1041 }

def heap : Heap := #[]
def classes : Array Class := #[k0, k1, k2, k3, k4, k5, k6, k7, k8, k9, k10, k11]
def interned : List (Array UInt16 × Addr) := []
def slotsUsed : Nat := 0
def theMethod : MethodId := ⟨1, 2⟩
def args0 : Array Value := #[.int 5, .int 7, .int 9]
def aboutOver (below : List Frame) : State where
  vm := { classes := classes, interned := interned.toArray }
  heap := heap
  slotsUsed := slotsUsed
  threads := #[{ frames := .invoking theMethod args0 :: below }]
def below0 : List Frame := [.native { method := ⟨0, 0⟩, args := #[] }]
def about1 : State := aboutOver below0
def p0 : Program := .bare "" "" ""
def e0 : Env := launch0.env 0 0 0
theorem w_frames : about1.frames = Frame.invoking theMethod args0 :: below0 := rfl
set_option maxRecDepth 65536 in
theorem w_args : argsFit about1.vm theMethod args0 = true := by decide +kernel
set_option maxRecDepth 65536 in
theorem w_heap : heapFits about1 = true := by decide +kernel
set_option maxRecDepth 65536 in
theorem w_runnable : about1.curStatus? = some .runnable := by decide +kernel
set_option maxRecDepth 65536 in
theorem w_alone : about1.alone = true := by decide +kernel
set_option maxRecDepth 65536 in
theorem w_named : about1.methodNamed? x = some theMethod := by decide +kernel
set_option maxRecDepth 65536 in
theorem w_hears : about1.hears theMethod below0 = true := by decide +kernel
set_option maxRecDepth 65536 in
theorem w_ripe : about1.ripe theMethod args0 below0 = true := by decide +kernel
theorem w_running : about1.status = .running := rfl
set_option maxRecDepth 65536 in
theorem w_room : about1.hasRoom e0.platform room_1 = true :=
  launch0.hasRoom_least _ room_1 (by decide +kernel) (by decide +kernel) (by decide +kernel) (by decide +kernel) (by decide +kernel) (by decide +kernel)
theorem allAtoms_all (ts : List Jvm.Cond) (a : Array Jvm.Value) (st : Jvm.State) : (allAtoms ts).before a st = ts.all (fun c => c.before a st) := by
  induction ts with
  | nil => rfl
  | cons c t ih =>
    show (Jvm.Cond.and c (allAtoms t)).before a st = _
    rw [Jvm.Cond.before_and, ih, List.all_cons]
def words1 : List Jvm.Cond := Jvm.Cond.code x code maxLocals ret :: tables_1
/-- a 'code' word, met by the world's own term for the bytes: nothing is compared byte by byte -/
theorem code_word {y : MethodName} {bytes : ByteArray} {mx : Nat} {rt : Option FieldType} {a : Array Value} {s : State} {m : MethodId} {meth : Method} {c : Code} (h1 : s.methodNamed? y = some m) (h2 : s.vm.method? m = some meth) (h3 : meth.code = some c) (h4 : c.code = bytes)
    (h5 : (c.maxLocals == mx && c.exceptionTable.isEmpty && decide (c.maxStack ≤ mostOperands) && decide (meth.sig.returnType = rt) && !meth.locks && decide (parseMethodDescriptor y.desc = some meth.sig)) = true) : (Jvm.Cond.code y bytes mx rt).before a s = true := by
  simp only [Bool.and_eq_true, beq_iff_eq, Bool.not_eq_true', decide_eq_true_eq] at h5
  obtain ⟨⟨⟨⟨⟨g1, g2⟩, g3⟩, g4⟩, g5⟩, g6⟩ := h5
  simp [Cond.before, Cond.holds, Cond.value, h1, h2, h3, h4, g1, g2, g3, g4, g5, g6]
def isCode : Jvm.Cond → Bool
  | .code _ _ _ _ => true
  | _ => false
theorem all_split {L : List Jvm.Cond} {P : Jvm.Cond → Bool} (h1 : L.all (fun c => isCode c || P c) = true) (h2 : ∀ c ∈ L.filter isCode, P c = true) : L.all P = true := by
  refine List.all_eq_true.mpr fun c hc => ?_
  have h := List.all_eq_true.mp h1 c hc
  rcases Bool.eq_false_or_eq_true (isCode c) with hi | hi
  · exact h2 c (List.mem_filter.mpr ⟨hc, hi⟩)
  · simpa [hi] using h
set_option maxRecDepth 65536 in
theorem w_c0 : (Jvm.Cond.code x code maxLocals ret).before args0 about1 = true := code_word (m := ⟨1, 2⟩) (meth := k1m2) (c := k1c2) (by decide +kernel) rfl rfl rfl (by decide +kernel)
set_option maxRecDepth 65536 in
theorem w_c1 : (Jvm.Cond.code ({ cls := "com/example/remint/remint/BlockLayoutBlockOfPinLaw", name := "expectedBands", desc := "(I)I" } : Jvm.MethodName) method_2_code (1 : Nat) (Option.some Jvm.ClassFile.FieldType.int)).before args0 about1 = true := code_word (m := ⟨1, 1⟩) (meth := k1m1) (c := k1c1) (by decide +kernel) rfl rfl rfl (by decide +kernel)
set_option maxRecDepth 65536 in
theorem w_c2 : (Jvm.Cond.code ({ cls := "com/example/remint/remint/BlockLayout", name := "<init>", desc := "(I)V" } : Jvm.MethodName) prog_1_method_1_code (7 : Nat) (Option.none : Option Jvm.ClassFile.FieldType)).before args0 about1 = true := code_word (m := ⟨2, 0⟩) (meth := k2m0) (c := k2c0) (by decide +kernel) rfl rfl rfl (by decide +kernel)
set_option maxRecDepth 65536 in
theorem w_c3 : (Jvm.Cond.code ({ cls := "java/lang/Object", name := "<init>", desc := "()V" } : Jvm.MethodName) object_method_1_code (1 : Nat) (Option.none : Option Jvm.ClassFile.FieldType)).before args0 about1 = true := code_word (m := ⟨0, 0⟩) (meth := k0m0) (c := k0c0) (by decide +kernel) rfl rfl rfl (by decide +kernel)
set_option maxRecDepth 65536 in
theorem w_c4 : (Jvm.Cond.code ({ cls := "java/lang/Math", name := "max", desc := "(II)I" } : Jvm.MethodName) jdk_29_method_65_code (2 : Nat) (Option.some Jvm.ClassFile.FieldType.int)).before args0 about1 = true := code_word (m := ⟨3, 1⟩) (meth := k3m1) (c := k3c1) (by decide +kernel) rfl rfl rfl (by decide +kernel)
set_option maxRecDepth 65536 in
theorem w_c5 : (Jvm.Cond.code ({ cls := "com/example/remint/remint/BlockLayout", name := "blockCount", desc := "(I)I" } : Jvm.MethodName) prog_1_method_11_code (2 : Nat) (Option.some Jvm.ClassFile.FieldType.int)).before args0 about1 = true := code_word (m := ⟨2, 4⟩) (meth := k2m4) (c := k2c4) (by decide +kernel) rfl rfl rfl (by decide +kernel)
set_option maxRecDepth 65536 in
theorem w_c6 : (Jvm.Cond.code ({ cls := "com/example/remint/remint/BlockLayout", name := "blockBytes", desc := "(I)I" } : Jvm.MethodName) prog_1_method_4_code (2 : Nat) (Option.some Jvm.ClassFile.FieldType.int)).before args0 about1 = true := code_word (m := ⟨2, 2⟩) (meth := k2m2) (c := k2c2) (by decide +kernel) rfl rfl rfl (by decide +kernel)
set_option maxRecDepth 65536 in
theorem w_c7 : (Jvm.Cond.code ({ cls := "com/example/remint/remint/BlockLayout", name := "values", desc := "(I)I" } : Jvm.MethodName) prog_1_method_12_code (2 : Nat) (Option.some Jvm.ClassFile.FieldType.int)).before args0 about1 = true := code_word (m := ⟨2, 5⟩) (meth := k2m5) (c := k2c5) (by decide +kernel) rfl rfl rfl (by decide +kernel)
set_option maxRecDepth 65536 in
theorem w_c8 : (Jvm.Cond.code ({ cls := "com/example/remint/remint/BlockLayout", name := "bounds", desc := "(I)I" } : Jvm.MethodName) prog_1_method_13_code (2 : Nat) (Option.some Jvm.ClassFile.FieldType.int)).before args0 about1 = true := code_word (m := ⟨2, 6⟩) (meth := k2m6) (c := k2c6) (by decide +kernel) rfl rfl rfl (by decide +kernel)
set_option maxRecDepth 65536 in
theorem w_c9 : (Jvm.Cond.code ({ cls := "com/example/remint/remint/BlockLayout", name := "bands", desc := "()I" } : Jvm.MethodName) prog_1_method_3_code (1 : Nat) (Option.some Jvm.ClassFile.FieldType.int)).before args0 about1 = true := code_word (m := ⟨2, 1⟩) (meth := k2m1) (c := k2c1) (by decide +kernel) rfl rfl rfl (by decide +kernel)
set_option maxRecDepth 65536 in
theorem w_c10 : (Jvm.Cond.code ({ cls := "java/lang/Math", name := "min", desc := "(II)I" } : Jvm.MethodName) jdk_29_method_69_code (2 : Nat) (Option.some Jvm.ClassFile.FieldType.int)).before args0 about1 = true := code_word (m := ⟨3, 2⟩) (meth := k3m2) (c := k3c2) (by decide +kernel) rfl rfl rfl (by decide +kernel)
set_option maxRecDepth 65536 in
theorem w_c11 : (Jvm.Cond.code ({ cls := "com/example/remint/remint/BlockLayout", name := "blockOf", desc := "(II)I" } : Jvm.MethodName) prog_1_method_6_code (3 : Nat) (Option.some Jvm.ClassFile.FieldType.int)).before args0 about1 = true := code_word (m := ⟨2, 3⟩) (meth := k2m3) (c := k2c3) (by decide +kernel) rfl rfl rfl (by decide +kernel)
def codes1 : List Jvm.Cond := [Jvm.Cond.code x code maxLocals ret, Jvm.Cond.code ({ cls := "com/example/remint/remint/BlockLayoutBlockOfPinLaw", name := "expectedBands", desc := "(I)I" } : Jvm.MethodName) method_2_code (1 : Nat) (Option.some Jvm.ClassFile.FieldType.int), Jvm.Cond.code ({ cls := "com/example/remint/remint/BlockLayout", name := "<init>", desc := "(I)V" } : Jvm.MethodName) prog_1_method_1_code (7 : Nat) (Option.none : Option Jvm.ClassFile.FieldType), Jvm.Cond.code ({ cls := "java/lang/Object", name := "<init>", desc := "()V" } : Jvm.MethodName) object_method_1_code (1 : Nat) (Option.none : Option Jvm.ClassFile.FieldType), Jvm.Cond.code ({ cls := "java/lang/Math", name := "max", desc := "(II)I" } : Jvm.MethodName) jdk_29_method_65_code (2 : Nat) (Option.some Jvm.ClassFile.FieldType.int), Jvm.Cond.code ({ cls := "com/example/remint/remint/BlockLayout", name := "blockCount", desc := "(I)I" } : Jvm.MethodName) prog_1_method_11_code (2 : Nat) (Option.some Jvm.ClassFile.FieldType.int), Jvm.Cond.code ({ cls := "com/example/remint/remint/BlockLayout", name := "blockBytes", desc := "(I)I" } : Jvm.MethodName) prog_1_method_4_code (2 : Nat) (Option.some Jvm.ClassFile.FieldType.int), Jvm.Cond.code ({ cls := "com/example/remint/remint/BlockLayout", name := "values", desc := "(I)I" } : Jvm.MethodName) prog_1_method_12_code (2 : Nat) (Option.some Jvm.ClassFile.FieldType.int), Jvm.Cond.code ({ cls := "com/example/remint/remint/BlockLayout", name := "bounds", desc := "(I)I" } : Jvm.MethodName) prog_1_method_13_code (2 : Nat) (Option.some Jvm.ClassFile.FieldType.int), Jvm.Cond.code ({ cls := "com/example/remint/remint/BlockLayout", name := "bands", desc := "()I" } : Jvm.MethodName) prog_1_method_3_code (1 : Nat) (Option.some Jvm.ClassFile.FieldType.int), Jvm.Cond.code ({ cls := "java/lang/Math", name := "min", desc := "(II)I" } : Jvm.MethodName) jdk_29_method_69_code (2 : Nat) (Option.some Jvm.ClassFile.FieldType.int), Jvm.Cond.code ({ cls := "com/example/remint/remint/BlockLayout", name := "blockOf", desc := "(II)I" } : Jvm.MethodName) prog_1_method_6_code (3 : Nat) (Option.some Jvm.ClassFile.FieldType.int)]
set_option maxRecDepth 65536 in
theorem codes_eq : words1.filter isCode = codes1 := rfl
theorem w_codes : ∀ c ∈ words1.filter isCode, c.before args0 about1 = true := by
  rw [codes_eq]
  intro c hc
  simp only [codes1, List.mem_cons, List.not_mem_nil, or_false] at hc
  rcases hc with rfl | rfl | rfl | rfl | rfl | rfl | rfl | rfl | rfl | rfl | rfl | rfl
  · exact w_c0
  · exact w_c1
  · exact w_c2
  · exact w_c3
  · exact w_c4
  · exact w_c5
  · exact w_c6
  · exact w_c7
  · exact w_c8
  · exact w_c9
  · exact w_c10
  · exact w_c11
set_option maxRecDepth 65536 in
theorem w_t1 : (words1.take 24).all (fun c => isCode c || c.before args0 about1) = true := by decide +kernel
set_option maxRecDepth 65536 in
theorem w_t2 : ((words1.drop 24).take 24).all (fun c => isCode c || c.before args0 about1) = true := by decide +kernel
set_option maxRecDepth 65536 in
theorem w_t3 : ((words1.drop 24).drop 24).all (fun c => isCode c || c.before args0 about1) = true := by decide +kernel
theorem w_tables : (allAtoms (Jvm.Cond.code x code maxLocals ret :: tables_1)).before args0 about1 = true := by
  rw [allAtoms_all]
  show words1.all (fun c => c.before args0 about1) = true
  refine all_split ?_ w_codes
  rw [← List.take_append_drop 24 words1, List.all_append, w_t1, ← List.take_append_drop 24 (words1.drop 24), List.all_append, w_t2, w_t3]
  rfl
set_option maxRecDepth 65536 in
theorem w_case : (Jvm.Cond.and given_1 narrow_1).before args0 about1 = true := by decide +kernel
theorem w_applies : (headSpec (Jvm.Cond.code x code maxLocals ret :: tables_1) room_1).applies x e0.platform about1 = true :=
  (Spec.applies_iff w_frames).mpr ⟨w_running, w_runnable, w_alone, w_named, w_hears, w_ripe, w_room, w_tables⟩
theorem atStart : AtStart classFile x code maxLocals ret World_1 tables_1 room_1 Calls_1 rest_1 Pre_1 launch0 p0 e0 about1 theMethod args0 below0 :=
  ⟨lists_1, trivial, launch0.admits_env _ _ _, launch0.least_env, fairChoices_fair.cas, fairChoices_fair.clock, w_frames, w_args, w_heap, w_applies, trivial, trivial, w_case⟩
end start1
theorem witness_1 : WitnessClaimed_1 := ⟨start1.p0, start1.e0, start1.about1, start1.theMethod, start1.args0, start1.below0, start1.atStart⟩
end Jvm.Pilot.@@N@@
