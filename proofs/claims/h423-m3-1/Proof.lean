import JvmDerived
import JvmDerived.Pilot.@@N@@Statement
import JvmDerived.Pilot.@@N@@Code
set_option linter.unusedVariables false
set_option linter.unusedSimpArgs false
namespace Jvm.Pilot.@@N@@
open Jvm Jvm.ClassFile Sem Op Lib Jvm.Free Jvm.Stand Jvm.LawKit Jvm.RoadKit Bundle Jvm.Pilot.@@N@@.Jvm.D
/-! OWN KIT 1: the fresh part of the heap: a list of (address, what its cell is) -/
abbrev Hp : Type := List (Addr × (Cell → Prop))
def Own (Z : State) (h : Heap) (M : Hp) : Prop := Ext Z.heap h ∧ (∀ (i : Nat) x, M[i]? = some x → Z.heap.size ≤ x.1 ∧ ∃ c : Cell, h[x.1]? = some c ∧ x.2 c) ∧ ∀ (i j : Nat) x y, M[i]? = some x → M[j]? = some y → x.1 = y.1 → i = j
theorem Own.ch {Z : State} {h h' : Heap} {M : Hp} {i : Nat} {a : Addr} {P P' : Cell → Prop} (O : Own Z h M) (hi : M[i]? = some (a, P)) (hs : h.size ≤ h'.size) (hk : ∀ (x : Addr) (c : Cell), h[x]? = some c → x ≠ a → h'[x]? = some c) (hc : ∃ c : Cell, h'[a]? = some c ∧ P' c) : Own Z h' (M.set i (a, P')) := by
  obtain ⟨o1, o2, o3⟩ := O
  have hil : i < M.length := (List.getElem?_eq_some_iff.mp hi).1
  have key : ∀ (j : Nat) x, (M.set i (a, P'))[j]? = some x → (j = i ∧ x = (a, P')) ∨ (j ≠ i ∧ M[j]? = some x) := by
    intro j x hx
    by_cases e : j = i
    · subst e
      rw [List.getElem?_set_self hil] at hx
      exact Or.inl ⟨rfl, (Option.some.inj hx).symm⟩
    · rw [List.getElem?_set_ne (Ne.symm e)] at hx
      exact Or.inr ⟨e, hx⟩
  refine ⟨⟨Nat.le_trans o1.1 hs, fun x c hx => hk x c (o1.2 x c hx) ?_⟩, fun j x hx => ?_, fun j j' x y hx hy e => ?_⟩
  · have h1 := (Array.getElem?_eq_some_iff.mp hx).1
    have h2 := (o2 i _ hi).1
    exact Nat.ne_of_lt (Nat.lt_of_lt_of_le h1 h2)
  · rcases key j x hx with ⟨rfl, rfl⟩ | ⟨ne, hx'⟩
    · exact ⟨(o2 j _ hi).1, hc⟩
    · obtain ⟨q1, c, q2, q3⟩ := o2 j x hx'
      exact ⟨q1, c, hk _ _ q2 (fun e => ne (o3 j i _ _ hx' hi e)), q3⟩
  · rcases key j x hx with ⟨rfl, rfl⟩ | ⟨ne, hx'⟩ <;> rcases key j' y hy with ⟨rfl, rfl⟩ | ⟨ne', hy'⟩
    · rfl
    · exact o3 _ _ _ _ hi hy' e
    · exact o3 _ _ _ _ hx' hi e
    · exact o3 _ _ _ _ hx' hy' e
theorem Own.upd {Z : State} {h h' : Heap} {M : Hp} {i : Nat} {a : Addr} {P P' : Cell → Prop} {sl : Nat} {v : Value} (O : Own Z h M) (hi : M[i]? = some (a, P)) (W : Wr h h' a sl v) (q : ∀ c : Cell, h[a]? = some c → P c → P' (c.setSlot sl v)) : Own Z h' (M.set i (a, P')) := by
  refine O.ch hi (Nat.le_of_eq W.size.symm) (fun x c hx ne => ?_) ?_
  · obtain ⟨c', e1, -, -, -, e5, -⟩ := wr_at W hx
    rw [e1, e5 ne]
  · obtain ⟨-, c, h1, h2⟩ := O.2.1 i _ hi
    obtain ⟨c', e1, -, -, -, -, -, e7⟩ := wr_at W h1
    exact ⟨c', e1, by rw [(e7 rfl).1]; exact q c h1 h2⟩
theorem Own.new {Z : State} {h h' : Heap} {M : Hp} {P : Cell → Prop} {c : Cell} (O : Own Z h M) (E : Ext h h') (hc : h'[h.size]? = some c) (q : P c) : Own Z h' ((h.size, P) :: M) := by
  obtain ⟨o1, o2, o3⟩ := O
  have lt : ∀ (j : Nat) x, M[j]? = some x → x.1 < h.size := fun j x hx => by
    obtain ⟨-, c, h1, -⟩ := o2 j x hx
    exact (Array.getElem?_eq_some_iff.mp h1).1
  refine ⟨⟨Nat.le_trans o1.1 E.1, fun x c hx => E.2 _ _ (o1.2 x c hx)⟩, fun j x hx => ?_, fun j j' x y hx hy e => ?_⟩
  · cases j with
    | zero => cases hx; exact ⟨o1.1, c, hc, q⟩
    | succ j => obtain ⟨q1, c, q2, q3⟩ := o2 j x hx; exact ⟨q1, c, E.2 _ _ q2, q3⟩
  · cases j <;> cases j'
    · rfl
    · cases hx; exact absurd e (Nat.ne_of_gt (lt _ _ hy))
    · cases hy; exact absurd e (Nat.ne_of_lt (lt _ _ hx))
    · exact congrArg _ (o3 _ _ _ _ hx hy e)
theorem Own.perm {Z : State} {h : Heap} {M M' : Hp} (O : Own Z h M) (p : M.Perm M') : Own Z h M' := by
  obtain ⟨o1, o2, o3⟩ := O
  have nd : (M.map Prod.fst).Nodup := by
    rw [List.nodup_iff_pairwise_ne, List.pairwise_iff_getElem]
    intro i j hi hj lt e
    simp only [List.length_map] at hi hj
    simp only [List.getElem_map] at e
    exact absurd (o3 i j _ _ (List.getElem?_eq_getElem hi) (List.getElem?_eq_getElem hj) e) (Nat.ne_of_lt lt)
  have nd' : (M'.map Prod.fst).Nodup := (p.map _).nodup_iff.mp nd
  refine ⟨o1, fun i x hx => ?_, fun i j x y hx hy e => ?_⟩
  · obtain ⟨j, hj⟩ := List.mem_iff_getElem?.mp (p.mem_iff.mpr (List.mem_of_getElem? hx))
    exact o2 j x hj
  · rw [List.nodup_iff_pairwise_ne, List.pairwise_iff_getElem] at nd'
    obtain ⟨hi, rfl⟩ := List.getElem?_eq_some_iff.mp hx
    obtain ⟨hj, rfl⟩ := List.getElem?_eq_some_iff.mp hy
    rcases Nat.lt_trichotomy i j with lt | rfl | lt
    · exact (nd' i j (by simpa using hi) (by simpa using hj) lt (by simpa using e)).elim
    · rfl
    · exact (nd' j i (by simpa using hj) (by simpa using hi) lt (by simpa using e.symm)).elim
theorem Own.ne {Z : State} {h : Heap} {M : Hp} {i j : Nat} {a b : Addr} {P P' : Cell → Prop} (O : Own Z h M) (hi : M[i]? = some (a, P)) (hj : M[j]? = some (b, P')) (ne : i ≠ j) : a ≠ b := fun e => ne (O.2.2 i j _ _ hi hj e)
/-! what a cell is: an object of the class C with these fields; an array of ints (bytes, booleans ..), an array of longs -/
abbrev Fd : Type := String × String × String × Value
def Apart (Z : State) (fs : List Fd) : Prop := ∀ (i j : Nat) f g, fs[i]? = some f → fs[j]? = some g → Jvm.RoadKit.slotOf Z f.1 f.2.1 f.2.2.1 = Jvm.RoadKit.slotOf Z g.1 g.2.1 g.2.2.1 → i = j
def Obj (Z : State) (C : String) (fs : List Fd) (c : Cell) : Prop := (∀ (h : Heap) (a : Addr), h[a]? = some c → Exa Z h a C ∧ ∀ (i : Nat) f, fs[i]? = some f → Fld Z h a f.1 f.2.1 f.2.2.1 f.2.2.2) ∧ Apart Z fs
def ArI (Z : State) (ty : FieldType) (vs : List Int32) (c : Cell) : Prop := Z.isArrayOf c ty ∧ c.vm ≠ .unknown ∧ c.slots = (vs.map Value.int).toArray ∧ vs.length < 2 ^ 31 ∧ ∀ x ∈ vs, fits ty (.int x) = true
def ArL (Z : State) (vs : List Int64) (c : Cell) : Prop := Z.isArrayOf c .long ∧ c.vm ≠ .unknown ∧ c.slots = (vs.map Value.long).toArray ∧ vs.length < 2 ^ 31
theorem exa_at_cell {Z : State} {h h' : Heap} {a a' : Addr} {C : String} {c : Cell} (E : Exa Z h a C) (hc : h[a]? = some c) (hc' : h'[a']? = some c) : Exa Z h' a' C := by
  obtain ⟨c1, k, h1, r⟩ := E
  cases h1.symm.trans hc
  exact ⟨_, k, hc', r⟩
theorem fld_at_cell {Z : State} {h h' : Heap} {a a' : Addr} {C n d : String} {v : Value} {c : Cell} (E : Fld Z h a C n d v) (hc : h[a]? = some c) (hc' : h'[a']? = some c) : Fld Z h' a' C n d v := by
  obtain ⟨c1, cf, k, i, f, h1, r⟩ := E
  cases h1.symm.trans hc
  exact ⟨_, cf, k, i, f, hc', r⟩
theorem Obj.put {Z : State} {C O n d : String} {fs : List Fd} {c : Cell} {j : Nat} {v w : Value} (B : Obj Z C fs c) (hj : fs[j]? = some (O, n, d, w)) {h h' : Heap} {a : Addr} (hc : h[a]? = some c) (W : Wr h h' a (Jvm.RoadKit.slotOf Z O n d) v) : Obj Z C (fs.set j (O, n, d, v)) (c.setSlot (Jvm.RoadKit.slotOf Z O n d) v) := by
  obtain ⟨b1, b2⟩ := B
  have hl : j < fs.length := (List.getElem?_eq_some_iff.mp hj).1
  have key : ∀ (i : Nat) x, (fs.set j (O, n, d, v))[i]? = some x → (i = j ∧ x = (O, n, d, v)) ∨ (i ≠ j ∧ fs[i]? = some x) := by
    intro i x hx
    by_cases e : i = j
    · subst e; rw [List.getElem?_set_self hl] at hx; exact Or.inl ⟨rfl, (Option.some.inj hx).symm⟩
    · rw [List.getElem?_set_ne (Ne.symm e)] at hx; exact Or.inr ⟨e, hx⟩
  have hnew : h'[a]? = some (c.setSlot (Jvm.RoadKit.slotOf Z O n d) v) := by
    obtain ⟨c', e1, -, -, -, -, -, e7⟩ := wr_at W hc
    rw [e1, (e7 rfl).1]
  refine ⟨fun h2 a2 h2c => ⟨exa_at_cell ((b1 h a hc).1.wr W) hnew h2c, fun i f hf => ?_⟩, fun i i' f g hf hg e => ?_⟩
  · rcases key i f hf with ⟨rfl, rfl⟩ | ⟨ne, hf'⟩
    · exact fld_at_cell (((b1 h a hc).2 i _ hj).same W) hnew h2c
    · exact fld_at_cell (((b1 h a hc).2 i _ hf').other W (Or.inr fun e => ne (b2 i j _ _ hf' hj e))) hnew h2c
  · rcases key i f hf with ⟨rfl, rfl⟩ | ⟨ne, hf'⟩ <;> rcases key i' g hg with ⟨rfl, rfl⟩ | ⟨ne', hg'⟩
    · rfl
    · exact b2 _ _ _ _ hj hg' e
    · exact b2 _ _ _ _ hf' hj e
    · exact b2 _ _ _ _ hf' hg' e
theorem ArI.arr {Z : State} {ty : FieldType} {vs : List Int32} {c : Cell} {h : Heap} {a : Addr} (B : ArI Z ty vs c) (hc : h[a]? = some c) : Arr Z h a c ty := ⟨hc, B.1, B.2.1⟩
theorem ArL.arr {Z : State} {vs : List Int64} {c : Cell} {h : Heap} {a : Addr} (B : ArL Z vs c) (hc : h[a]? = some c) : Arr Z h a c .long := ⟨hc, B.1, B.2.1⟩
theorem ArI.size {Z : State} {ty : FieldType} {vs : List Int32} {c : Cell} (B : ArI Z ty vs c) : c.slots.size = vs.length := by rw [B.2.2.1]; simp
theorem ArL.size {Z : State} {vs : List Int64} {c : Cell} (B : ArL Z vs c) : c.slots.size = vs.length := by rw [B.2.2.1]; simp
theorem ArI.put {Z : State} {ty : FieldType} {vs : List Int32} {c : Cell} (B : ArI Z ty vs c) (j : Nat) {x : Int32} (hx : fits ty (.int x) = true) : ArI Z ty (vs.set j x) (c.setSlot j (.int x)) := by
  refine ⟨B.1, B.2.1, ?_, by simpa using B.2.2.2.1, fun y hy => ?_⟩
  · show c.slots.setIfInBounds j (.int x) = _
    rw [B.2.2.1]; apply Array.ext'; simp [List.map_set]
  · rcases List.mem_or_eq_of_mem_set hy with h | rfl
    · exact B.2.2.2.2 y h
    · exact hx
theorem ArL.put {Z : State} {vs : List Int64} {c : Cell} (B : ArL Z vs c) (j : Nat) {x : Int64} : ArL Z (vs.set j x) (c.setSlot j (.long x)) := by
  refine ⟨B.1, B.2.1, ?_, by simpa using B.2.2.2⟩
  show c.slots.setIfInBounds j (.long x) = _
  rw [B.2.2.1]; apply Array.ext'; simp [List.map_set]
/-! OWN KIT 2: where a run stands, and how it ends -/
abbrev Cx : Type := Program × Launch × Env × Room × State × MethodId × Array Value × List Frame × Method × Code × (Option Value → Hp → Prop)
def Wk (Z : State) : Cx → State → Nat → Nat → Hp → Prop
  | (p, l, e, R, s, m, args, below, meth, c, _), T, cn, sn, M => ∃ locs, Stand p l e R s m args below meth c T locs cn sn ∧ Fr Z.heap.size locs ∧ Own Z T.heap M
def Ends (Z : State) : Cx → State → Nat → Array Slot → List Value → Prop
  | (p, l, e, R, s, m, args, below, meth, c, Q), T, pc, Ls, st => ∃ t o, Steps p.tables e below (T.setTop (mkF m pc Ls st)) t ∧ t.status = .running ∧ Ended t below o ∧ ∃ v L, o = .returned v ∧ (Fr Z.heap.size L ∧ ∃ M, Q v M ∧ Own Z t.heap M) ∧ FrameEnd s o t L R.cells R.slots
/-- from this frame, over such a heap, the run ends as Q says -/
def Go (Z : State) (k : Cx) (cn sn : Nat) (M : Hp) (pc : Nat) (Ls : Array Slot) (st : List Value) : Prop := ∀ T, Wk Z k T cn sn M → Ends Z k T pc Ls st
def Tb (Z : State) : Prop := ∃ a0, ∀ d ∈ tables_1, d.before a0 Z = true
def Ok (Z : State) (k : Cx) (R : Room) (Q : Option Value → Hp → Prop) (y : MethodName) (b : ByteArray) (ml : Nat) (rt : Option FieldType) : Prop :=
  match k with
  | (p, l, e, R', s, m, args, below, meth, c, Q') => p.tables.exec = Jvm.exec ∧ Z.Warmed39 s.vm ∧ c.code = b ∧ c.maxLocals = ml ∧ s.vm.findClass y.cls = some m.cls ∧ meth.name = y.name ∧ meth.sig.returnType = rt ∧ meth.locks = false ∧ Tb Z ∧ R' = R ∧ Q' = Q
theorem Ok.tb {Z : State} {k : Cx} {R : Room} {Q : Option Value → Hp → Prop} {y : MethodName} {b : ByteArray} {ml : Nat} {rt : Option FieldType} (H : Ok Z k R Q y b ml rt) : Tb Z := by
  obtain ⟨p, l, e, R', s, m, args, below, meth, c, Q'⟩ := k
  exact H.2.2.2.2.2.2.2.2.1
section Kit
variable {ty : FieldType} {Z : State} {k : Cx} {R : Room} {Q : Option Value → Hp → Prop} {y : MethodName} {b : ByteArray} {ml : Nat} {rt : Option FieldType} {cn sn : Nat} {M : Hp} {pc pc' : Nat} {Ls : Array Slot} {st : List Value}
theorem mem {i : Nat} {d : Jvm.Cond} (h : tables_1[i]? = some d) : d ∈ tables_1 := List.mem_of_getElem? h
theorem Go.more {cn' sn' : Nat} (hc : cn ≤ cn') (hs : sn ≤ sn') (g : Go Z k cn' sn' M pc Ls st) : Go Z k cn sn M pc Ls st := by
  obtain ⟨p, l, e, R, s, m, args, below, meth, c, Q⟩ := k
  intro T w
  obtain ⟨locs, X, F, O⟩ := w
  exact g T ⟨locs, X.more hc hs, F, O⟩
theorem Go.perm {M' : Hp} (p : M.Perm M') (g : Go Z k cn sn M' pc Ls st) : Go Z k cn sn M pc Ls st := by
  obtain ⟨p', l, e, R, s, m, args, below, meth, c, Q⟩ := k
  intro T w
  obtain ⟨locs, X, F, O⟩ := w
  exact g T ⟨locs, X, F, O.perm p⟩
theorem Go.fact {φ : Prop} (f : ∀ h, Own Z h M → φ) (g : φ → Go Z k cn sn M pc Ls st) : Go Z k cn sn M pc Ls st := by
  obtain ⟨p', l, e, R, s, m, args, below, meth, c, Q⟩ := k
  intro T w
  have w' := w
  obtain ⟨locs, X, F, O⟩ := w
  exact g (f _ O) T w'
theorem Go.cast {pc2 : Nat} {Ls2 : Array Slot} {st2 : List Value} {M2 : Hp} (h1 : pc = pc2) (h2 : Ls = Ls2) (h3 : st = st2) (h4 : M = M2) (g : Go Z k cn sn M2 pc2 Ls2 st2) : Go Z k cn sn M pc Ls st := by
  subst h1 h2 h3 h4; exact g
theorem s_iloadn (H : Ok Z k R Q y b ml rt) {i : Fin 4} {z : Int32} (hd : decode b pc = .ok (.iload_n i, 1)) (hl : Ls[i.val]? = some (.val (.int z))) (hp : pc + 1 = pc') (g : Go Z k cn sn M pc' Ls (.int z :: st)) : Go Z k cn sn M pc Ls (st) := by
  obtain ⟨p, l, e, R', s, m, args, below, meth, c, Q'⟩ := k
  obtain ⟨hx, hZ, hby, -⟩ := H
  subst hp
  intro T w
  have w' := w
  obtain ⟨locs, X, F, O⟩ := w
  obtain ⟨t, o, hs, r⟩ := g T w'
  exact ⟨t, o, XS.iloadN X.here hx rfl (hb hby hd) hl hs, r⟩
theorem s_iload (H : Ok Z k R Q y b ml rt) {i : Nat} {z : Int32} (hd : decode b pc = .ok (.iload i, 2)) (hl : Ls[i]? = some (.val (.int z))) (hp : pc + 2 = pc') (g : Go Z k cn sn M pc' Ls (.int z :: st)) : Go Z k cn sn M pc Ls (st) := by
  obtain ⟨p, l, e, R', s, m, args, below, meth, c, Q'⟩ := k
  obtain ⟨hx, hZ, hby, -⟩ := H
  subst hp
  intro T w
  have w' := w
  obtain ⟨locs, X, F, O⟩ := w
  obtain ⟨t, o, hs, r⟩ := g T w'
  exact ⟨t, o, XS.iload X.here hx rfl (hb hby hd) hl hs, r⟩
theorem s_istoren (H : Ok Z k R Q y b ml rt) {i : Fin 4} {x : Int32} {L' : Int32 → Array Slot} (hd : decode b pc = .ok (.istore_n i, 1)) (hl : ∀ z, storeLocals Ls i.val (.int z) = some (L' z)) (hp : pc + 1 = pc') (g : ∀ z, z = x → Go Z k cn sn M pc' (L' z) st) : Go Z k cn sn M pc Ls (.int x :: st) := by
  obtain ⟨p, l, e, R', s, m, args, below, meth, c, Q'⟩ := k
  obtain ⟨hx, hZ, hby, -⟩ := H
  subst hp
  intro T w
  have w' := w
  obtain ⟨locs, X, F, O⟩ := w
  obtain ⟨t, o, hs, r⟩ := g x rfl T w'
  exact ⟨t, o, XS.istoreN X.here hx rfl (hb hby hd) rfl (hl x) hs, r⟩
theorem s_istore (H : Ok Z k R Q y b ml rt) {i : Nat} {x : Int32} {L' : Int32 → Array Slot} (hd : decode b pc = .ok (.istore i, 2)) (hl : ∀ z, storeLocals Ls i (.int z) = some (L' z)) (hp : pc + 2 = pc') (g : ∀ z, z = x → Go Z k cn sn M pc' (L' z) st) : Go Z k cn sn M pc Ls (.int x :: st) := by
  obtain ⟨p, l, e, R', s, m, args, below, meth, c, Q'⟩ := k
  obtain ⟨hx, hZ, hby, -⟩ := H
  subst hp
  intro T w
  have w' := w
  obtain ⟨locs, X, F, O⟩ := w
  obtain ⟨t, o, hs, r⟩ := g x rfl T w'
  exact ⟨t, o, XS.istore X.here hx rfl (hb hby hd) rfl (hl x) hs, r⟩
theorem s_lloadn (H : Ok Z k R Q y b ml rt) {i : Fin 4} {z : Int64} (hd : decode b pc = .ok (.lload_n i, 1)) (hl : Ls[i.val]? = some (.val (.long z))) (hp : pc + 1 = pc') (g : Go Z k cn sn M pc' Ls (.long z :: st)) : Go Z k cn sn M pc Ls (st) := by
  obtain ⟨p, l, e, R', s, m, args, below, meth, c, Q'⟩ := k
  obtain ⟨hx, hZ, hby, -⟩ := H
  subst hp
  intro T w
  have w' := w
  obtain ⟨locs, X, F, O⟩ := w
  obtain ⟨t, o, hs, r⟩ := g T w'
  exact ⟨t, o, XS.lloadN X.here hx rfl (hb hby hd) hl hs, r⟩
theorem s_lload (H : Ok Z k R Q y b ml rt) {i : Nat} {z : Int64} (hd : decode b pc = .ok (.lload i, 2)) (hl : Ls[i]? = some (.val (.long z))) (hp : pc + 2 = pc') (g : Go Z k cn sn M pc' Ls (.long z :: st)) : Go Z k cn sn M pc Ls (st) := by
  obtain ⟨p, l, e, R', s, m, args, below, meth, c, Q'⟩ := k
  obtain ⟨hx, hZ, hby, -⟩ := H
  subst hp
  intro T w
  have w' := w
  obtain ⟨locs, X, F, O⟩ := w
  obtain ⟨t, o, hs, r⟩ := g T w'
  exact ⟨t, o, XS.lload X.here hx rfl (hb hby hd) hl hs, r⟩
theorem s_lstoren (H : Ok Z k R Q y b ml rt) {i : Fin 4} {x : Int64} {L' : Int64 → Array Slot} (hd : decode b pc = .ok (.lstore_n i, 1)) (hl : ∀ z, storeLocals Ls i.val (.long z) = some (L' z)) (hp : pc + 1 = pc') (g : ∀ z, z = x → Go Z k cn sn M pc' (L' z) st) : Go Z k cn sn M pc Ls (.long x :: st) := by
  obtain ⟨p, l, e, R', s, m, args, below, meth, c, Q'⟩ := k
  obtain ⟨hx, hZ, hby, -⟩ := H
  subst hp
  intro T w
  have w' := w
  obtain ⟨locs, X, F, O⟩ := w
  obtain ⟨t, o, hs, r⟩ := g x rfl T w'
  exact ⟨t, o, XS.lstoreN X.here hx rfl (hb hby hd) rfl (hl x) hs, r⟩
theorem s_lstore (H : Ok Z k R Q y b ml rt) {i : Nat} {x : Int64} {L' : Int64 → Array Slot} (hd : decode b pc = .ok (.lstore i, 2)) (hl : ∀ z, storeLocals Ls i (.long z) = some (L' z)) (hp : pc + 2 = pc') (g : ∀ z, z = x → Go Z k cn sn M pc' (L' z) st) : Go Z k cn sn M pc Ls (.long x :: st) := by
  obtain ⟨p, l, e, R', s, m, args, below, meth, c, Q'⟩ := k
  obtain ⟨hx, hZ, hby, -⟩ := H
  subst hp
  intro T w
  have w' := w
  obtain ⟨locs, X, F, O⟩ := w
  obtain ⟨t, o, hs, r⟩ := g x rfl T w'
  exact ⟨t, o, XS.lstore X.here hx rfl (hb hby hd) rfl (hl x) hs, r⟩
theorem s_aloadn (H : Ok Z k R Q y b ml rt) {i : Fin 4} {v : Value} (hd : decode b pc = .ok (.aload_n i, 1)) (hl : Ls[i.val]? = some (.val v)) (hv : v.isRef = true) (hp : pc + 1 = pc') (g : Go Z k cn sn M pc' Ls (v :: st)) : Go Z k cn sn M pc Ls (st) := by
  obtain ⟨p, l, e, R', s, m, args, below, meth, c, Q'⟩ := k
  obtain ⟨hx, hZ, hby, -⟩ := H
  subst hp
  intro T w
  have w' := w
  obtain ⟨locs, X, F, O⟩ := w
  obtain ⟨t, o, hs, r⟩ := g T w'
  exact ⟨t, o, XS.aloadN X.here hx rfl (hb hby hd) hl hv hs, r⟩
theorem s_aload (H : Ok Z k R Q y b ml rt) {i : Nat} {v : Value} (hd : decode b pc = .ok (.aload i, 2)) (hl : Ls[i]? = some (.val v)) (hv : v.isRef = true) (hp : pc + 2 = pc') (g : Go Z k cn sn M pc' Ls (v :: st)) : Go Z k cn sn M pc Ls (st) := by
  obtain ⟨p, l, e, R', s, m, args, below, meth, c, Q'⟩ := k
  obtain ⟨hx, hZ, hby, -⟩ := H
  subst hp
  intro T w
  have w' := w
  obtain ⟨locs, X, F, O⟩ := w
  obtain ⟨t, o, hs, r⟩ := g T w'
  exact ⟨t, o, XS.aload X.here hx rfl (hb hby hd) hl hv hs, r⟩
theorem s_astoren (H : Ok Z k R Q y b ml rt) {i : Fin 4} {v : Value} {L' : Array Slot} (hd : decode b pc = .ok (.astore_n i, 1)) (hv : v.isRef = true) (hl : storeLocals Ls i.val v = some L') (hp : pc + 1 = pc') (g : Go Z k cn sn M pc' L' (st)) : Go Z k cn sn M pc Ls (v :: st) := by
  obtain ⟨p, l, e, R', s, m, args, below, meth, c, Q'⟩ := k
  obtain ⟨hx, hZ, hby, -⟩ := H
  subst hp
  intro T w
  have w' := w
  obtain ⟨locs, X, F, O⟩ := w
  obtain ⟨t, o, hs, r⟩ := g T w'
  exact ⟨t, o, XS.astoreN X.here hx rfl (hb hby hd) rfl hv hl hs, r⟩
theorem s_astore (H : Ok Z k R Q y b ml rt) {i : Nat} {v : Value} {L' : Array Slot} (hd : decode b pc = .ok (.astore i, 2)) (hv : v.isRef = true) (hl : storeLocals Ls i v = some L') (hp : pc + 2 = pc') (g : Go Z k cn sn M pc' L' (st)) : Go Z k cn sn M pc Ls (v :: st) := by
  obtain ⟨p, l, e, R', s, m, args, below, meth, c, Q'⟩ := k
  obtain ⟨hx, hZ, hby, -⟩ := H
  subst hp
  intro T w
  have w' := w
  obtain ⟨locs, X, F, O⟩ := w
  obtain ⟨t, o, hs, r⟩ := g T w'
  exact ⟨t, o, XS.astore X.here hx rfl (hb hby hd) rfl hv hl hs, r⟩
theorem s_iconst (H : Ok Z k R Q y b ml rt) {i : Int} {z : Int32} (hd : decode b pc = .ok (.iconst i, 1)) (hz : z = Int32.ofInt i) (hp : pc + 1 = pc') (g : Go Z k cn sn M pc' Ls (.int z :: st)) : Go Z k cn sn M pc Ls (st) := by
  obtain ⟨p, l, e, R', s, m, args, below, meth, c, Q'⟩ := k
  obtain ⟨hx, hZ, hby, -⟩ := H
  subst hp
  intro T w
  have w' := w
  obtain ⟨locs, X, F, O⟩ := w
  obtain ⟨t, o, hs, r⟩ := g T w'
  exact ⟨t, o, XS.iconst X.here hx rfl (hb hby hd) (hz ▸ hs), r⟩
theorem s_bipush (H : Ok Z k R Q y b ml rt) {i : Int} {z : Int32} (hd : decode b pc = .ok (.bipush i, 2)) (hz : z = (Int8.ofInt i).toInt32) (hp : pc + 2 = pc') (g : Go Z k cn sn M pc' Ls (.int z :: st)) : Go Z k cn sn M pc Ls (st) := by
  obtain ⟨p, l, e, R', s, m, args, below, meth, c, Q'⟩ := k
  obtain ⟨hx, hZ, hby, -⟩ := H
  subst hp
  intro T w
  have w' := w
  obtain ⟨locs, X, F, O⟩ := w
  obtain ⟨t, o, hs, r⟩ := g T w'
  exact ⟨t, o, XS.bipush X.here hx rfl (hb hby hd) (hz ▸ hs), r⟩
theorem s_sipush (H : Ok Z k R Q y b ml rt) {i : Int} {z : Int32} (hd : decode b pc = .ok (.sipush i, 3)) (hz : z = (Int16.ofInt i).toInt32) (hp : pc + 3 = pc') (g : Go Z k cn sn M pc' Ls (.int z :: st)) : Go Z k cn sn M pc Ls (st) := by
  obtain ⟨p, l, e, R', s, m, args, below, meth, c, Q'⟩ := k
  obtain ⟨hx, hZ, hby, -⟩ := H
  subst hp
  intro T w
  have w' := w
  obtain ⟨locs, X, F, O⟩ := w
  obtain ⟨t, o, hs, r⟩ := g T w'
  exact ⟨t, o, XS.sipush X.here hx rfl (hb hby hd) (hz ▸ hs), r⟩
theorem s_lconst (H : Ok Z k R Q y b ml rt) {i : Fin 2} {z : Int64} (hd : decode b pc = .ok (.lconst i, 1)) (hz : z = Int64.ofNat i) (hp : pc + 1 = pc') (g : Go Z k cn sn M pc' Ls (.long z :: st)) : Go Z k cn sn M pc Ls (st) := by
  obtain ⟨p, l, e, R', s, m, args, below, meth, c, Q'⟩ := k
  obtain ⟨hx, hZ, hby, -⟩ := H
  subst hp
  intro T w
  have w' := w
  obtain ⟨locs, X, F, O⟩ := w
  obtain ⟨t, o, hs, r⟩ := g T w'
  exact ⟨t, o, XS.lconst X.here hx rfl (hb hby hd) (hz ▸ hs), r⟩
theorem s_anull (H : Ok Z k R Q y b ml rt) (hd : decode b pc = .ok (.aconst_null, 1)) (hp : pc + 1 = pc') (g : Go Z k cn sn M pc' Ls (.null :: st)) : Go Z k cn sn M pc Ls (st) := by
  obtain ⟨p, l, e, R', s, m, args, below, meth, c, Q'⟩ := k
  obtain ⟨hx, hZ, hby, -⟩ := H
  subst hp
  intro T w
  have w' := w
  obtain ⟨locs, X, F, O⟩ := w
  obtain ⟨t, o, hs, r⟩ := g T w'
  exact ⟨t, o, XS.aconstNull X.here hx rfl (hb hby hd) hs, r⟩
theorem s_iadd (H : Ok Z k R Q y b ml rt) {x u : Int32} (hd : decode b pc = .ok (.iadd, 1)) (hp : pc + 1 = pc') (g : Go Z k cn sn M pc' Ls (.int (x + u) :: st)) : Go Z k cn sn M pc Ls (.int u :: .int x :: st) := by
  obtain ⟨p, l, e, R', s, m, args, below, meth, c, Q'⟩ := k
  obtain ⟨hx, hZ, hby, -⟩ := H
  subst hp
  intro T w
  have w' := w
  obtain ⟨locs, X, F, O⟩ := w
  obtain ⟨t, o, hs, r⟩ := g T w'
  exact ⟨t, o, XS.iadd X.here hx rfl (hb hby hd) rfl hs, r⟩
theorem s_isub (H : Ok Z k R Q y b ml rt) {x u : Int32} (hd : decode b pc = .ok (.isub, 1)) (hp : pc + 1 = pc') (g : Go Z k cn sn M pc' Ls (.int (x - u) :: st)) : Go Z k cn sn M pc Ls (.int u :: .int x :: st) := by
  obtain ⟨p, l, e, R', s, m, args, below, meth, c, Q'⟩ := k
  obtain ⟨hx, hZ, hby, -⟩ := H
  subst hp
  intro T w
  have w' := w
  obtain ⟨locs, X, F, O⟩ := w
  obtain ⟨t, o, hs, r⟩ := g T w'
  exact ⟨t, o, XS.isub X.here hx rfl (hb hby hd) rfl hs, r⟩
theorem s_imul (H : Ok Z k R Q y b ml rt) {x u : Int32} (hd : decode b pc = .ok (.imul, 1)) (hp : pc + 1 = pc') (g : Go Z k cn sn M pc' Ls (.int (x * u) :: st)) : Go Z k cn sn M pc Ls (.int u :: .int x :: st) := by
  obtain ⟨p, l, e, R', s, m, args, below, meth, c, Q'⟩ := k
  obtain ⟨hx, hZ, hby, -⟩ := H
  subst hp
  intro T w
  have w' := w
  obtain ⟨locs, X, F, O⟩ := w
  obtain ⟨t, o, hs, r⟩ := g T w'
  exact ⟨t, o, XS.imul X.here hx rfl (hb hby hd) rfl hs, r⟩
theorem s_iand (H : Ok Z k R Q y b ml rt) {x u : Int32} (hd : decode b pc = .ok (.iand, 1)) (hp : pc + 1 = pc') (g : Go Z k cn sn M pc' Ls (.int (x &&& u) :: st)) : Go Z k cn sn M pc Ls (.int u :: .int x :: st) := by
  obtain ⟨p, l, e, R', s, m, args, below, meth, c, Q'⟩ := k
  obtain ⟨hx, hZ, hby, -⟩ := H
  subst hp
  intro T w
  have w' := w
  obtain ⟨locs, X, F, O⟩ := w
  obtain ⟨t, o, hs, r⟩ := g T w'
  exact ⟨t, o, XS.iand X.here hx rfl (hb hby hd) rfl hs, r⟩
theorem s_ior (H : Ok Z k R Q y b ml rt) {x u : Int32} (hd : decode b pc = .ok (.ior, 1)) (hp : pc + 1 = pc') (g : Go Z k cn sn M pc' Ls (.int (x ||| u) :: st)) : Go Z k cn sn M pc Ls (.int u :: .int x :: st) := by
  obtain ⟨p, l, e, R', s, m, args, below, meth, c, Q'⟩ := k
  obtain ⟨hx, hZ, hby, -⟩ := H
  subst hp
  intro T w
  have w' := w
  obtain ⟨locs, X, F, O⟩ := w
  obtain ⟨t, o, hs, r⟩ := g T w'
  exact ⟨t, o, XS.ior X.here hx rfl (hb hby hd) rfl hs, r⟩
theorem s_ixor (H : Ok Z k R Q y b ml rt) {x u : Int32} (hd : decode b pc = .ok (.ixor, 1)) (hp : pc + 1 = pc') (g : Go Z k cn sn M pc' Ls (.int (x ^^^ u) :: st)) : Go Z k cn sn M pc Ls (.int u :: .int x :: st) := by
  obtain ⟨p, l, e, R', s, m, args, below, meth, c, Q'⟩ := k
  obtain ⟨hx, hZ, hby, -⟩ := H
  subst hp
  intro T w
  have w' := w
  obtain ⟨locs, X, F, O⟩ := w
  obtain ⟨t, o, hs, r⟩ := g T w'
  exact ⟨t, o, XS.ixor X.here hx rfl (hb hby hd) rfl hs, r⟩
theorem s_idiv (H : Ok Z k R Q y b ml rt) {x u : Int32} (hd : decode b pc = .ok (.idiv, 1)) (hu : u ≠ 0) (hp : pc + 1 = pc') (g : Go Z k cn sn M pc' Ls (.int (x / u) :: st)) : Go Z k cn sn M pc Ls (.int u :: .int x :: st) := by
  obtain ⟨p, l, e, R', s, m, args, below, meth, c, Q'⟩ := k
  obtain ⟨hx, hZ, hby, -⟩ := H
  subst hp
  intro T w
  have w' := w
  obtain ⟨locs, X, F, O⟩ := w
  obtain ⟨t, o, hs, r⟩ := g T w'
  exact ⟨t, o, XS.idiv X.here hx rfl (hb hby hd) rfl hu hs, r⟩
theorem s_ineg (H : Ok Z k R Q y b ml rt) {x : Int32} (hd : decode b pc = .ok (.ineg, 1)) (hp : pc + 1 = pc') (g : Go Z k cn sn M pc' Ls (.int (-x) :: st)) : Go Z k cn sn M pc Ls (.int x :: st) := by
  obtain ⟨p, l, e, R', s, m, args, below, meth, c, Q'⟩ := k
  obtain ⟨hx, hZ, hby, -⟩ := H
  subst hp
  intro T w
  have w' := w
  obtain ⟨locs, X, F, O⟩ := w
  obtain ⟨t, o, hs, r⟩ := g T w'
  exact ⟨t, o, XS.ineg X.here hx rfl (hb hby hd) rfl hs, r⟩
theorem s_ladd (H : Ok Z k R Q y b ml rt) {x u : Int64} (hd : decode b pc = .ok (.ladd, 1)) (hp : pc + 1 = pc') (g : Go Z k cn sn M pc' Ls (.long (x + u) :: st)) : Go Z k cn sn M pc Ls (.long u :: .long x :: st) := by
  obtain ⟨p, l, e, R', s, m, args, below, meth, c, Q'⟩ := k
  obtain ⟨hx, hZ, hby, -⟩ := H
  subst hp
  intro T w
  have w' := w
  obtain ⟨locs, X, F, O⟩ := w
  obtain ⟨t, o, hs, r⟩ := g T w'
  exact ⟨t, o, XS.ladd X.here hx rfl (hb hby hd) rfl hs, r⟩
theorem s_lsub (H : Ok Z k R Q y b ml rt) {x u : Int64} (hd : decode b pc = .ok (.lsub, 1)) (hp : pc + 1 = pc') (g : Go Z k cn sn M pc' Ls (.long (x - u) :: st)) : Go Z k cn sn M pc Ls (.long u :: .long x :: st) := by
  obtain ⟨p, l, e, R', s, m, args, below, meth, c, Q'⟩ := k
  obtain ⟨hx, hZ, hby, -⟩ := H
  subst hp
  intro T w
  have w' := w
  obtain ⟨locs, X, F, O⟩ := w
  obtain ⟨t, o, hs, r⟩ := g T w'
  exact ⟨t, o, XS.lsub X.here hx rfl (hb hby hd) rfl hs, r⟩
theorem s_lmul (H : Ok Z k R Q y b ml rt) {x u : Int64} (hd : decode b pc = .ok (.lmul, 1)) (hp : pc + 1 = pc') (g : Go Z k cn sn M pc' Ls (.long (x * u) :: st)) : Go Z k cn sn M pc Ls (.long u :: .long x :: st) := by
  obtain ⟨p, l, e, R', s, m, args, below, meth, c, Q'⟩ := k
  obtain ⟨hx, hZ, hby, -⟩ := H
  subst hp
  intro T w
  have w' := w
  obtain ⟨locs, X, F, O⟩ := w
  obtain ⟨t, o, hs, r⟩ := g T w'
  exact ⟨t, o, XS.lmul X.here hx rfl (hb hby hd) rfl hs, r⟩
theorem s_land (H : Ok Z k R Q y b ml rt) {x u : Int64} (hd : decode b pc = .ok (.land, 1)) (hp : pc + 1 = pc') (g : Go Z k cn sn M pc' Ls (.long (x &&& u) :: st)) : Go Z k cn sn M pc Ls (.long u :: .long x :: st) := by
  obtain ⟨p, l, e, R', s, m, args, below, meth, c, Q'⟩ := k
  obtain ⟨hx, hZ, hby, -⟩ := H
  subst hp
  intro T w
  have w' := w
  obtain ⟨locs, X, F, O⟩ := w
  obtain ⟨t, o, hs, r⟩ := g T w'
  exact ⟨t, o, XS.land X.here hx rfl (hb hby hd) rfl hs, r⟩
theorem s_lor (H : Ok Z k R Q y b ml rt) {x u : Int64} (hd : decode b pc = .ok (.lor, 1)) (hp : pc + 1 = pc') (g : Go Z k cn sn M pc' Ls (.long (x ||| u) :: st)) : Go Z k cn sn M pc Ls (.long u :: .long x :: st) := by
  obtain ⟨p, l, e, R', s, m, args, below, meth, c, Q'⟩ := k
  obtain ⟨hx, hZ, hby, -⟩ := H
  subst hp
  intro T w
  have w' := w
  obtain ⟨locs, X, F, O⟩ := w
  obtain ⟨t, o, hs, r⟩ := g T w'
  exact ⟨t, o, XS.lor X.here hx rfl (hb hby hd) rfl hs, r⟩
theorem s_lxor (H : Ok Z k R Q y b ml rt) {x u : Int64} (hd : decode b pc = .ok (.lxor, 1)) (hp : pc + 1 = pc') (g : Go Z k cn sn M pc' Ls (.long (x ^^^ u) :: st)) : Go Z k cn sn M pc Ls (.long u :: .long x :: st) := by
  obtain ⟨p, l, e, R', s, m, args, below, meth, c, Q'⟩ := k
  obtain ⟨hx, hZ, hby, -⟩ := H
  subst hp
  intro T w
  have w' := w
  obtain ⟨locs, X, F, O⟩ := w
  obtain ⟨t, o, hs, r⟩ := g T w'
  exact ⟨t, o, XS.lxor X.here hx rfl (hb hby hd) rfl hs, r⟩
theorem s_ldiv (H : Ok Z k R Q y b ml rt) {x u : Int64} (hd : decode b pc = .ok (.ldiv, 1)) (hu : u ≠ 0) (hp : pc + 1 = pc') (g : Go Z k cn sn M pc' Ls (.long (x / u) :: st)) : Go Z k cn sn M pc Ls (.long u :: .long x :: st) := by
  obtain ⟨p, l, e, R', s, m, args, below, meth, c, Q'⟩ := k
  obtain ⟨hx, hZ, hby, -⟩ := H
  subst hp
  intro T w
  have w' := w
  obtain ⟨locs, X, F, O⟩ := w
  obtain ⟨t, o, hs, r⟩ := g T w'
  exact ⟨t, o, XS.ldiv X.here hx rfl (hb hby hd) rfl hu hs, r⟩
theorem s_lneg (H : Ok Z k R Q y b ml rt) {x : Int64} (hd : decode b pc = .ok (.lneg, 1)) (hp : pc + 1 = pc') (g : Go Z k cn sn M pc' Ls (.long (-x) :: st)) : Go Z k cn sn M pc Ls (.long x :: st) := by
  obtain ⟨p, l, e, R', s, m, args, below, meth, c, Q'⟩ := k
  obtain ⟨hx, hZ, hby, -⟩ := H
  subst hp
  intro T w
  have w' := w
  obtain ⟨locs, X, F, O⟩ := w
  obtain ⟨t, o, hs, r⟩ := g T w'
  exact ⟨t, o, XS.lneg X.here hx rfl (hb hby hd) rfl hs, r⟩
theorem s_irem (H : Ok Z k R Q y b ml rt) {x u : Int32} (hd : decode b pc = .ok (.irem, 1)) (hu : u ≠ 0) (hp : pc + 1 = pc') (g : Go Z k cn sn M pc' Ls (.int (x % u) :: st)) : Go Z k cn sn M pc Ls (.int u :: .int x :: st) := by
  obtain ⟨p, l, e, R', s, m, args, below, meth, c, Q'⟩ := k
  obtain ⟨hx, hZ, hby, -⟩ := H
  subst hp
  intro T w
  have w' := w
  obtain ⟨locs, X, F, O⟩ := w
  obtain ⟨t, o, hs, r⟩ := g T w'
  exact ⟨t, o, iremM X hx rfl (hb hby hd) rfl hu hs, r⟩
theorem s_lrem (H : Ok Z k R Q y b ml rt) {x u : Int64} (hd : decode b pc = .ok (.lrem, 1)) (hu : u ≠ 0) (hp : pc + 1 = pc') (g : Go Z k cn sn M pc' Ls (.long (x % u) :: st)) : Go Z k cn sn M pc Ls (.long u :: .long x :: st) := by
  obtain ⟨p, l, e, R', s, m, args, below, meth, c, Q'⟩ := k
  obtain ⟨hx, hZ, hby, -⟩ := H
  subst hp
  intro T w
  have w' := w
  obtain ⟨locs, X, F, O⟩ := w
  obtain ⟨t, o, hs, r⟩ := g T w'
  exact ⟨t, o, XS.lrem X.here hx rfl (hb hby hd) rfl hu (lrem_mod x u ▸ hs), r⟩
theorem s_ishl (H : Ok Z k R Q y b ml rt) {x u : Int32} (hd : decode b pc = .ok (.ishl, 1)) (hp : pc + 1 = pc') (g : Go Z k cn sn M pc' Ls (.int (x <<< (u &&& 31)) :: st)) : Go Z k cn sn M pc Ls (.int u :: .int x :: st) := by
  obtain ⟨p, l, e, R', s, m, args, below, meth, c, Q'⟩ := k
  obtain ⟨hx, hZ, hby, -⟩ := H
  subst hp
  intro T w
  have w' := w
  obtain ⟨locs, X, F, O⟩ := w
  obtain ⟨t, o, hs, r⟩ := g T w'
  exact ⟨t, o, XS.ishl X.here hx rfl (hb hby hd) rfl hs, r⟩
theorem s_ishr (H : Ok Z k R Q y b ml rt) {x u : Int32} (hd : decode b pc = .ok (.ishr, 1)) (hp : pc + 1 = pc') (g : Go Z k cn sn M pc' Ls (.int (x >>> (u &&& 31)) :: st)) : Go Z k cn sn M pc Ls (.int u :: .int x :: st) := by
  obtain ⟨p, l, e, R', s, m, args, below, meth, c, Q'⟩ := k
  obtain ⟨hx, hZ, hby, -⟩ := H
  subst hp
  intro T w
  have w' := w
  obtain ⟨locs, X, F, O⟩ := w
  obtain ⟨t, o, hs, r⟩ := g T w'
  exact ⟨t, o, XS.ishr X.here hx rfl (hb hby hd) rfl hs, r⟩
theorem s_iushr (H : Ok Z k R Q y b ml rt) {x u : Int32} (hd : decode b pc = .ok (.iushr, 1)) (hp : pc + 1 = pc') (g : Go Z k cn sn M pc' Ls (.int ((x.toUInt32 >>> (u &&& 31).toUInt32).toInt32) :: st)) : Go Z k cn sn M pc Ls (.int u :: .int x :: st) := by
  obtain ⟨p, l, e, R', s, m, args, below, meth, c, Q'⟩ := k
  obtain ⟨hx, hZ, hby, -⟩ := H
  subst hp
  intro T w
  have w' := w
  obtain ⟨locs, X, F, O⟩ := w
  obtain ⟨t, o, hs, r⟩ := g T w'
  exact ⟨t, o, XS.iushr X.here hx rfl (hb hby hd) rfl hs, r⟩
theorem s_lshl (H : Ok Z k R Q y b ml rt) {x : Int64} {u : Int32} (hd : decode b pc = .ok (.lshl, 1)) (hp : pc + 1 = pc') (g : Go Z k cn sn M pc' Ls (.long (x <<< (u &&& 0x3f).toInt64) :: st)) : Go Z k cn sn M pc Ls (.int u :: .long x :: st) := by
  obtain ⟨p, l, e, R', s, m, args, below, meth, c, Q'⟩ := k
  obtain ⟨hx, hZ, hby, -⟩ := H
  subst hp
  intro T w
  have w' := w
  obtain ⟨locs, X, F, O⟩ := w
  obtain ⟨t, o, hs, r⟩ := g T w'
  exact ⟨t, o, XS.lshl X.here hx rfl (hb hby hd) rfl hs, r⟩
theorem s_lshr (H : Ok Z k R Q y b ml rt) {x : Int64} {u : Int32} (hd : decode b pc = .ok (.lshr, 1)) (hp : pc + 1 = pc') (g : Go Z k cn sn M pc' Ls (.long (x >>> (u &&& 0x3f).toInt64) :: st)) : Go Z k cn sn M pc Ls (.int u :: .long x :: st) := by
  obtain ⟨p, l, e, R', s, m, args, below, meth, c, Q'⟩ := k
  obtain ⟨hx, hZ, hby, -⟩ := H
  subst hp
  intro T w
  have w' := w
  obtain ⟨locs, X, F, O⟩ := w
  obtain ⟨t, o, hs, r⟩ := g T w'
  exact ⟨t, o, XS.lshr X.here hx rfl (hb hby hd) rfl hs, r⟩
theorem s_lushr (H : Ok Z k R Q y b ml rt) {x : Int64} {u : Int32} (hd : decode b pc = .ok (.lushr, 1)) (hp : pc + 1 = pc') (g : Go Z k cn sn M pc' Ls (.long ((x.toUInt64 >>> (u &&& 0x3f).toInt64.toUInt64).toInt64) :: st)) : Go Z k cn sn M pc Ls (.int u :: .long x :: st) := by
  obtain ⟨p, l, e, R', s, m, args, below, meth, c, Q'⟩ := k
  obtain ⟨hx, hZ, hby, -⟩ := H
  subst hp
  intro T w
  have w' := w
  obtain ⟨locs, X, F, O⟩ := w
  obtain ⟨t, o, hs, r⟩ := g T w'
  exact ⟨t, o, XS.lushr X.here hx rfl (hb hby hd) rfl hs, r⟩
theorem s_i2l (H : Ok Z k R Q y b ml rt) {x : Int32} (hd : decode b pc = .ok (.i2l, 1)) (hp : pc + 1 = pc') (g : Go Z k cn sn M pc' Ls (.long (x.toInt64) :: st)) : Go Z k cn sn M pc Ls (.int x :: st) := by
  obtain ⟨p, l, e, R', s, m, args, below, meth, c, Q'⟩ := k
  obtain ⟨hx, hZ, hby, -⟩ := H
  subst hp
  intro T w
  have w' := w
  obtain ⟨locs, X, F, O⟩ := w
  obtain ⟨t, o, hs, r⟩ := g T w'
  exact ⟨t, o, XS.i2l X.here hx rfl (hb hby hd) rfl hs, r⟩
theorem s_l2i (H : Ok Z k R Q y b ml rt) {x : Int64} (hd : decode b pc = .ok (.l2i, 1)) (hp : pc + 1 = pc') (g : Go Z k cn sn M pc' Ls (.int (x.toInt32) :: st)) : Go Z k cn sn M pc Ls (.long x :: st) := by
  obtain ⟨p, l, e, R', s, m, args, below, meth, c, Q'⟩ := k
  obtain ⟨hx, hZ, hby, -⟩ := H
  subst hp
  intro T w
  have w' := w
  obtain ⟨locs, X, F, O⟩ := w
  obtain ⟨t, o, hs, r⟩ := g T w'
  exact ⟨t, o, XS.l2i X.here hx rfl (hb hby hd) rfl hs, r⟩
theorem s_i2b (H : Ok Z k R Q y b ml rt) {x : Int32} (hd : decode b pc = .ok (.i2b, 1)) (hp : pc + 1 = pc') (g : Go Z k cn sn M pc' Ls (.int (x.toInt8.toInt32) :: st)) : Go Z k cn sn M pc Ls (.int x :: st) := by
  obtain ⟨p, l, e, R', s, m, args, below, meth, c, Q'⟩ := k
  obtain ⟨hx, hZ, hby, -⟩ := H
  subst hp
  intro T w
  have w' := w
  obtain ⟨locs, X, F, O⟩ := w
  obtain ⟨t, o, hs, r⟩ := g T w'
  exact ⟨t, o, XS.i2b X.here hx rfl (hb hby hd) rfl hs, r⟩
theorem s_i2c (H : Ok Z k R Q y b ml rt) {x : Int32} (hd : decode b pc = .ok (.i2c, 1)) (hp : pc + 1 = pc') (g : Go Z k cn sn M pc' Ls (.int (x.toUInt32.toUInt16.toUInt32.toInt32) :: st)) : Go Z k cn sn M pc Ls (.int x :: st) := by
  obtain ⟨p, l, e, R', s, m, args, below, meth, c, Q'⟩ := k
  obtain ⟨hx, hZ, hby, -⟩ := H
  subst hp
  intro T w
  have w' := w
  obtain ⟨locs, X, F, O⟩ := w
  obtain ⟨t, o, hs, r⟩ := g T w'
  exact ⟨t, o, XS.i2c X.here hx rfl (hb hby hd) rfl hs, r⟩
theorem s_i2s (H : Ok Z k R Q y b ml rt) {x : Int32} (hd : decode b pc = .ok (.i2s, 1)) (hp : pc + 1 = pc') (g : Go Z k cn sn M pc' Ls (.int (x.toInt16.toInt32) :: st)) : Go Z k cn sn M pc Ls (.int x :: st) := by
  obtain ⟨p, l, e, R', s, m, args, below, meth, c, Q'⟩ := k
  obtain ⟨hx, hZ, hby, -⟩ := H
  subst hp
  intro T w
  have w' := w
  obtain ⟨locs, X, F, O⟩ := w
  obtain ⟨t, o, hs, r⟩ := g T w'
  exact ⟨t, o, XS.i2s X.here hx rfl (hb hby hd) rfl hs, r⟩
theorem s_lcmp (H : Ok Z k R Q y b ml rt) {x u : Int64} (hd : decode b pc = .ok (.lcmp, 1)) (hp : pc + 1 = pc') (g : Go Z k cn sn M pc' Ls (.int (lcmpW x u) :: st)) : Go Z k cn sn M pc Ls (.long u :: .long x :: st) := by
  obtain ⟨p, l, e, R', s, m, args, below, meth, c, Q'⟩ := k
  obtain ⟨hx, hZ, hby, -⟩ := H
  subst hp
  intro T w
  have w' := w
  obtain ⟨locs, X, F, O⟩ := w
  obtain ⟨t, o, hs, r⟩ := g T w'
  exact ⟨t, o, XS.lcmp X.here hx rfl (hb hby hd) rfl hs, r⟩
theorem s_dup (H : Ok Z k R Q y b ml rt) {v : Value} (hd : decode b pc = .ok (.dup, 1)) (hc : v.category = 1) (hp : pc + 1 = pc') (g : Go Z k cn sn M pc' Ls (v :: v :: st)) : Go Z k cn sn M pc Ls (v :: st) := by
  obtain ⟨p, l, e, R', s, m, args, below, meth, c, Q'⟩ := k
  obtain ⟨hx, hZ, hby, -⟩ := H
  subst hp
  intro T w
  have w' := w
  obtain ⟨locs, X, F, O⟩ := w
  obtain ⟨t, o, hs, r⟩ := g T w'
  exact ⟨t, o, XS.dup X.here hx rfl (hb hby hd) rfl hc hs, r⟩
theorem s_dupx1 (H : Ok Z k R Q y b ml rt) {v v' : Value} (hd : decode b pc = .ok (.dup_x1, 1)) (hc : v.category = 1) (hc' : v'.category = 1) (hp : pc + 1 = pc') (g : Go Z k cn sn M pc' Ls (v :: v' :: v :: st)) : Go Z k cn sn M pc Ls (v :: v' :: st) := by
  obtain ⟨p, l, e, R', s, m, args, below, meth, c, Q'⟩ := k
  obtain ⟨hx, hZ, hby, -⟩ := H
  subst hp
  intro T w
  have w' := w
  obtain ⟨locs, X, F, O⟩ := w
  obtain ⟨t, o, hs, r⟩ := g T w'
  exact ⟨t, o, XS.dupX1 X.here hx rfl (hb hby hd) rfl hc hc' hs, r⟩
theorem s_dup2 (H : Ok Z k R Q y b ml rt) {v v' : Value} (hd : decode b pc = .ok (.dup2, 1)) (hc : v.category = 1) (hc' : v'.category = 1) (hp : pc + 1 = pc') (g : Go Z k cn sn M pc' Ls (v :: v' :: v :: v' :: st)) : Go Z k cn sn M pc Ls (v :: v' :: st) := by
  obtain ⟨p, l, e, R', s, m, args, below, meth, c, Q'⟩ := k
  obtain ⟨hx, hZ, hby, -⟩ := H
  subst hp
  intro T w
  have w' := w
  obtain ⟨locs, X, F, O⟩ := w
  obtain ⟨t, o, hs, r⟩ := g T w'
  exact ⟨t, o, XT.dup2 X.here hx rfl (hb hby hd) rfl hc hc' hs, r⟩
theorem s_dup2l (H : Ok Z k R Q y b ml rt) {x : Int64} (hd : decode b pc = .ok (.dup2, 1)) (hp : pc + 1 = pc') (g : Go Z k cn sn M pc' Ls (.long x :: .long x :: st)) : Go Z k cn sn M pc Ls (.long x :: st) := by
  obtain ⟨p, l, e, R', s, m, args, below, meth, c, Q'⟩ := k
  obtain ⟨hx, hZ, hby, -⟩ := H
  subst hp
  intro T w
  have w' := w
  obtain ⟨locs, X, F, O⟩ := w
  obtain ⟨t, o, hs, r⟩ := g T w'
  exact ⟨t, o, XT.dup2L X.here hx rfl (hb hby hd) rfl hs, r⟩
theorem s_pop (H : Ok Z k R Q y b ml rt) {v : Value} (hd : decode b pc = .ok (.pop, 1)) (hc : v.category = 1) (hp : pc + 1 = pc') (g : Go Z k cn sn M pc' Ls (st)) : Go Z k cn sn M pc Ls (v :: st) := by
  obtain ⟨p, l, e, R', s, m, args, below, meth, c, Q'⟩ := k
  obtain ⟨hx, hZ, hby, -⟩ := H
  subst hp
  intro T w
  have w' := w
  obtain ⟨locs, X, F, O⟩ := w
  obtain ⟨t, o, hs, r⟩ := g T w'
  exact ⟨t, o, XS.pop X.here hx rfl (hb hby hd) rfl hc hs, r⟩
theorem s_iinc (H : Ok Z k R Q y b ml rt) {i : Nat} {cst : Int} {x u : Int32} {L' : Int32 → Array Slot} (hd : decode b pc = .ok (.iinc i cst, 3)) (hl0 : Ls[i]? = some (.val (.int x))) (hu : u = Int32.ofInt cst) (hl : ∀ z, storeLocals Ls i (.int z) = some (L' z)) (hp : pc + 3 = pc') (g : ∀ z, z = x + u → Go Z k cn sn M pc' (L' z) st) : Go Z k cn sn M pc Ls st := by
  obtain ⟨p, l, e, R', s, m, args, below, meth, c, Q'⟩ := k
  obtain ⟨hx, hZ, hby, -⟩ := H
  subst hp hu
  intro T w
  have w' := w
  obtain ⟨locs, X, F, O⟩ := w
  obtain ⟨t, o, hs, r⟩ := g _ rfl T w'
  exact ⟨t, o, XS.iinc X.here hx rfl (hb hby hd) hl0 (hl _) hs, r⟩
theorem s_goto (H : Ok Z k R Q y b ml rt) {o : Int} (hd : decode b pc = .ok (.goto o, 3)) (ho : (pc : Int) + o = pc') (g : Go Z k cn sn M pc' Ls st) : Go Z k cn sn M pc Ls st := by
  obtain ⟨p, l, e, R', s, m, args, below, meth, c, Q'⟩ := k
  obtain ⟨hx, hZ, hby, -⟩ := H
  intro T w
  have w' := w
  obtain ⟨locs, X, F, O⟩ := w
  obtain ⟨t, o, hs, r⟩ := g T w'
  exact ⟨t, o, XS.goto X.here hx rfl (pc0 := pc) rfl (hb hby hd) (by omega) (by omega) hs, r⟩
theorem s_if (H : Ok Z k R Q y b ml rt) {cd : ClassFile.Cond} {o : Int} {x : Int32} {py : Nat} {φ : Prop} (hd : decode b pc = .ok (.ifCond cd o, 3)) (hq : ifCond.holds cd x = true ↔ φ) (ho : (pc : Int) + o = py) (hp : pc + 3 = pc') (gy : φ → Go Z k cn sn M py Ls st) (gn : ¬ φ → Go Z k cn sn M pc' Ls st) : Go Z k cn sn M pc Ls (.int x :: st) := by
  obtain ⟨p, l, e, R', s, m, args, below, meth, c, Q'⟩ := k
  obtain ⟨hx, hZ, hby, -⟩ := H
  subst hp
  intro T w
  have w' := w
  obtain ⟨locs, X, F, O⟩ := w
  cases hh : ifCond.holds cd x with
  | true =>
    obtain ⟨t, o, hs, r⟩ := gy (hq.mp hh) T w'
    exact ⟨t, o, XS.ifYes X.here hx rfl (pc0 := pc) rfl (hb hby hd) rfl hh (by omega) (by omega) hs, r⟩
  | false =>
    obtain ⟨t, o, hs, r⟩ := gn (fun q => by rw [hq.mpr q] at hh; cases hh) T w'
    exact ⟨t, o, XS.ifNo X.here hx rfl (hb hby hd) rfl hh hs, r⟩
theorem s_icmp (H : Ok Z k R Q y b ml rt) {cd : ClassFile.Cond} {o : Int} {x u : Int32} {py : Nat} {φ : Prop} (hd : decode b pc = .ok (.if_icmp cd o, 3)) (hq : if_icmp.holds cd x u = true ↔ φ) (ho : (pc : Int) + o = py) (hp : pc + 3 = pc') (gy : φ → Go Z k cn sn M py Ls st) (gn : ¬ φ → Go Z k cn sn M pc' Ls st) : Go Z k cn sn M pc Ls (.int u :: .int x :: st) := by
  obtain ⟨p, l, e, R', s, m, args, below, meth, c, Q'⟩ := k
  obtain ⟨hx, hZ, hby, -⟩ := H
  subst hp
  intro T w
  have w' := w
  obtain ⟨locs, X, F, O⟩ := w
  cases hh : if_icmp.holds cd x u with
  | true =>
    obtain ⟨t, o, hs, r⟩ := gy (hq.mp hh) T w'
    exact ⟨t, o, XS.icmpYes X.here hx rfl (pc0 := pc) rfl (hb hby hd) rfl hh (by omega) (by omega) hs, r⟩
  | false =>
    obtain ⟨t, o, hs, r⟩ := gn (fun q => by rw [hq.mpr q] at hh; cases hh) T w'
    exact ⟨t, o, XS.icmpNo X.here hx rfl (hb hby hd) rfl hh hs, r⟩
theorem q_eq {x u : Int32} : if_icmp.holds .eq x u = true ↔ x = u := by simp [if_icmp.holds]
theorem z_eq {x : Int32} : ifCond.holds .eq x = true ↔ x = 0 := by rw [if0]; exact q_eq
theorem q_ne {x u : Int32} : if_icmp.holds .ne x u = true ↔ ¬ x = u := by simp [if_icmp.holds]
theorem z_ne {x : Int32} : ifCond.holds .ne x = true ↔ ¬ x = 0 := by rw [if0]; exact q_ne
theorem q_lt {x u : Int32} : if_icmp.holds .lt x u = true ↔ x < u := by simp [if_icmp.holds]
theorem z_lt {x : Int32} : ifCond.holds .lt x = true ↔ x < 0 := by rw [if0]; exact q_lt
theorem q_ge {x u : Int32} : if_icmp.holds .ge x u = true ↔ u ≤ x := by simp [if_icmp.holds]
theorem z_ge {x : Int32} : ifCond.holds .ge x = true ↔ 0 ≤ x := by rw [if0]; exact q_ge
theorem q_gt {x u : Int32} : if_icmp.holds .gt x u = true ↔ u < x := by simp [if_icmp.holds]
theorem z_gt {x : Int32} : ifCond.holds .gt x = true ↔ 0 < x := by rw [if0]; exact q_gt
theorem q_le {x u : Int32} : if_icmp.holds .le x u = true ↔ x ≤ u := by simp [if_icmp.holds]
theorem z_le {x : Int32} : ifCond.holds .le x = true ↔ x ≤ 0 := by rw [if0]; exact q_le
theorem l_eq {x u : Int64} : ifCond.holds .eq (lcmpW x u) = true ↔ x = u := z_eq.trans (lw_eq x u)
theorem l_ne {x u : Int64} : ifCond.holds .ne (lcmpW x u) = true ↔ ¬ x = u := z_ne.trans (not_congr (lw_eq x u))
theorem l_lt {x u : Int64} : ifCond.holds .lt (lcmpW x u) = true ↔ x < u := z_lt.trans (lw_lt x u)
theorem l_gt {x u : Int64} : ifCond.holds .gt (lcmpW x u) = true ↔ u < x := z_gt.trans (lw_gt x u)
theorem l_ge {x u : Int64} : ifCond.holds .ge (lcmpW x u) = true ↔ u ≤ x := z_ge.trans (by rw [lcW]; exact lc_ge x u)
theorem l_le {x u : Int64} : ifCond.holds .le (lcmpW x u) = true ↔ x ≤ u := z_le.trans (by rw [lcW]; exact lc_le x u)
theorem s_ifnull (H : Ok Z k R Q y b ml rt) {o : Int} {a : Addr} (hd : decode b pc = .ok (.ifnull o, 3)) (hp : pc + 3 = pc') (g : Go Z k cn sn M pc' Ls st) : Go Z k cn sn M pc Ls (.ref a :: st) := by
  obtain ⟨p, l, e, R', s, m, args, below, meth, c, Q'⟩ := k
  obtain ⟨hx, hZ, hby, -⟩ := H
  subst hp
  intro T w
  have w' := w
  obtain ⟨locs, X, F, O⟩ := w
  obtain ⟨t, o, hs, r⟩ := g T w'
  exact ⟨t, o, XS.ifnullNo X.here hx rfl (hb hby hd) rfl hs, r⟩
theorem s_acmpne (H : Ok Z k R Q y b ml rt) {o : Int} {a a' : Addr} {py : Nat} (hd : decode b pc = .ok (.if_acmp .ne o, 3)) (hne : a ≠ a') (ho : (pc : Int) + o = py) (g : Go Z k cn sn M py Ls st) : Go Z k cn sn M pc Ls (.ref a' :: .ref a :: st) := by
  obtain ⟨p, l, e, R', s, m, args, below, meth, c, Q'⟩ := k
  obtain ⟨hx, hZ, hby, -⟩ := H
  intro T w
  have w' := w
  obtain ⟨locs, X, F, O⟩ := w
  obtain ⟨t, o, hs, r⟩ := g T w'
  exact ⟨t, o, XS.acmpYes X.here hx rfl (pc0 := pc) rfl (hb hby hd) rfl (by simp [if_acmp.holds, hne]) (by omega) (by omega) hs, r⟩
theorem s_acmpeq (H : Ok Z k R Q y b ml rt) {o : Int} {a a' : Addr} (hd : decode b pc = .ok (.if_acmp .eq o, 3)) (hne : a ≠ a') (hp : pc + 3 = pc') (g : Go Z k cn sn M pc' Ls st) : Go Z k cn sn M pc Ls (.ref a' :: .ref a :: st) := by
  obtain ⟨p, l, e, R', s, m, args, below, meth, c, Q'⟩ := k
  obtain ⟨hx, hZ, hby, -⟩ := H
  subst hp
  intro T w
  have w' := w
  obtain ⟨locs, X, F, O⟩ := w
  obtain ⟨t, o, hs, r⟩ := g T w'
  exact ⟨t, o, XS.acmpNo X.here hx rfl (hb hby hd) rfl (by simp [if_acmp.holds, hne]) hs, r⟩
theorem s_ldc2 (H : Ok Z k R Q y b ml rt) {i : Nat} {z : Int64} (hd : decode b pc = .ok (.ldc2_w i, 3)) (w1 : Jvm.Cond.constantLong y.cls i z ∈ tables_1) (hp : pc + 3 = pc') (g : Go Z k cn sn M pc' Ls (.long z :: st)) : Go Z k cn sn M pc Ls st := by
  obtain ⟨p, l, e, R', s, m, args, below, meth, c, Q'⟩ := k
  obtain ⟨hx, hZ, hby, -, hown, -, -, -, ⟨a0, hw⟩, -⟩ := H
  subst hp
  intro T w
  have w' := w
  obtain ⟨locs, X, F, O⟩ := w
  obtain ⟨t, o, hs, r⟩ := g T w'
  exact ⟨t, o, X.ldc2Long hx hown (mvT hZ (hw _ w1)) (g := mkF m pc Ls st) rfl (hb hby hd) _ hs, r⟩
theorem s_ldc (H : Ok Z k R Q y b ml rt) {i : Nat} {z : Int32} (hd : decode b pc = .ok (.ldc i, 2)) (w1 : Jvm.Cond.constant y.cls i z ∈ tables_1) (hp : pc + 2 = pc') (g : Go Z k cn sn M pc' Ls (.int z :: st)) : Go Z k cn sn M pc Ls st := by
  obtain ⟨p, l, e, R', s, m, args, below, meth, c, Q'⟩ := k
  obtain ⟨hx, hZ, hby, -, hown, -, -, -, ⟨a0, hw⟩, -⟩ := H
  subst hp
  intro T w
  have w' := w
  obtain ⟨locs, X, F, O⟩ := w
  obtain ⟨t, o, hs, r⟩ := g T w'
  exact ⟨t, o, X.ldcInt hx hown (mvT hZ (hw _ w1)) (g := mkF m pc Ls st) rfl (hb hby hd) _ hs, r⟩
/-! the heap's steps -/
theorem nb_of {n : Nat} {j : Int32} (h0 : ¬ j < 0) (hl : j.toNatClampNeg < n) : ¬ (j < 0 ∨ n ≤ j.toNatClampNeg) := fun q => q.elim h0 fun r => Nat.not_lt.mpr r hl
theorem s_alenI (H : Ok Z k R Q y b ml rt) {i : Nat} {a : Addr} {ty : FieldType} {vs : List Int32} {z : Int32} (hd : decode b pc = .ok (.arraylength, 1)) (hi : M[i]? = some (a, ArI Z ty vs)) (hz : z = vs.length.toInt32) (hp : pc + 1 = pc') (g : Go Z k cn sn M pc' Ls (.int z :: st)) : Go Z k cn sn M pc Ls (.ref a :: st) := by
  obtain ⟨p, l, e, R', s, m, args, below, meth, c, Q'⟩ := k
  obtain ⟨hx, hZ, hby, -⟩ := H
  subst hp hz
  intro T w
  have w' := w
  obtain ⟨locs, X, F, O⟩ := w
  obtain ⟨-, cl, q1, q2⟩ := O.2.1 i _ hi
  obtain ⟨t, o, hs, r⟩ := g T w'
  exact ⟨t, o, X.arraylength hx q1 (State.isArrayOf_alike hZ.alike q2.1) (g := mkF m pc Ls (.ref a :: st)) rfl rfl (hb hby hd) _ (by rw [q2.size]; exact hs), r⟩
theorem s_alenL (H : Ok Z k R Q y b ml rt) {i : Nat} {a : Addr} {vs : List Int64} {z : Int32} (hd : decode b pc = .ok (.arraylength, 1)) (hi : M[i]? = some (a, ArL Z vs)) (hz : z = vs.length.toInt32) (hp : pc + 1 = pc') (g : Go Z k cn sn M pc' Ls (.int z :: st)) : Go Z k cn sn M pc Ls (.ref a :: st) := by
  obtain ⟨p, l, e, R', s, m, args, below, meth, c, Q'⟩ := k
  obtain ⟨hx, hZ, hby, -⟩ := H
  subst hp hz
  intro T w
  have w' := w
  obtain ⟨locs, X, F, O⟩ := w
  obtain ⟨-, cl, q1, q2⟩ := O.2.1 i _ hi
  obtain ⟨t, o, hs, r⟩ := g T w'
  exact ⟨t, o, X.arraylength hx q1 (State.isArrayOf_alike hZ.alike q2.1) (g := mkF m pc Ls (.ref a :: st)) rfl rfl (hb hby hd) _ (by rw [q2.size]; exact hs), r⟩
theorem s_iaload (H : Ok Z k R Q y b ml rt) {i : Nat} {a : Addr} {vs : List Int32} {j : Int32} {x : Int32} (hd : decode b pc = .ok (.iaload, 1)) (hi : M[i]? = some (a, ArI Z .int vs)) (h0 : ¬ j < 0) {jn : Nat} (hjn : j.toNatClampNeg = jn) (hv : vs[jn]? = some x) (hp : pc + 1 = pc') (g : Go Z k cn sn M pc' Ls (.int x :: st)) : Go Z k cn sn M pc Ls (.int j :: .ref a :: st) := by
  obtain ⟨p, l, e, R', s, m, args, below, meth, c, Q'⟩ := k
  obtain ⟨hx, hZ, hby, -⟩ := H
  subst hp hjn
  intro T w
  have w' := w
  obtain ⟨locs, X, F, O⟩ := w
  obtain ⟨-, cl, q1, q2⟩ := O.2.1 i _ hi
  obtain ⟨t, o, hs, r⟩ := g T w'
  have hlt : j.toNatClampNeg < vs.length := (List.getElem?_eq_some_iff.mp hv).1
  exact ⟨t, o, X.iaload hx (v := .int x) q1 (State.isArrayOf_alike hZ.alike q2.1) q2.2.1 (nb_of h0 (by rw [q2.size]; exact hlt)) (by rw [q2.2.2.1]; simp [hv]) (g := mkF m pc Ls (.int j :: .ref a :: st)) rfl rfl (hb hby hd) _ hs, r⟩
theorem s_baload (H : Ok Z k R Q y b ml rt) {i : Nat} {a : Addr} {vs : List Int32} {j : Int32} {x : Int32} (hd : decode b pc = .ok (.baload, 1)) (hi : M[i]? = some (a, ArI Z .byte vs)) (h0 : ¬ j < 0) {jn : Nat} (hjn : j.toNatClampNeg = jn) (hv : vs[jn]? = some x) (hp : pc + 1 = pc') (g : Go Z k cn sn M pc' Ls (.int x :: st)) : Go Z k cn sn M pc Ls (.int j :: .ref a :: st) := by
  obtain ⟨p, l, e, R', s, m, args, below, meth, c, Q'⟩ := k
  obtain ⟨hx, hZ, hby, -⟩ := H
  subst hp hjn
  intro T w
  have w' := w
  obtain ⟨locs, X, F, O⟩ := w
  obtain ⟨-, cl, q1, q2⟩ := O.2.1 i _ hi
  obtain ⟨t, o, hs, r⟩ := g T w'
  have hlt : j.toNatClampNeg < vs.length := (List.getElem?_eq_some_iff.mp hv).1
  exact ⟨t, o, X.baloadBytes hx (v := .int x) q1 (State.isArrayOf_alike hZ.alike q2.1) q2.2.1 (nb_of h0 (by rw [q2.size]; exact hlt)) (by rw [q2.2.2.1]; simp [hv]) (g := mkF m pc Ls (.int j :: .ref a :: st)) rfl rfl (hb hby hd) _ hs, r⟩
theorem s_zaload (H : Ok Z k R Q y b ml rt) {i : Nat} {a : Addr} {vs : List Int32} {j : Int32} {x : Int32} (hd : decode b pc = .ok (.baload, 1)) (hi : M[i]? = some (a, ArI Z .boolean vs)) (h0 : ¬ j < 0) {jn : Nat} (hjn : j.toNatClampNeg = jn) (hv : vs[jn]? = some x) (hp : pc + 1 = pc') (g : Go Z k cn sn M pc' Ls (.int x :: st)) : Go Z k cn sn M pc Ls (.int j :: .ref a :: st) := by
  obtain ⟨p, l, e, R', s, m, args, below, meth, c, Q'⟩ := k
  obtain ⟨hx, hZ, hby, -⟩ := H
  subst hp hjn
  intro T w
  have w' := w
  obtain ⟨locs, X, F, O⟩ := w
  obtain ⟨-, cl, q1, q2⟩ := O.2.1 i _ hi
  obtain ⟨t, o, hs, r⟩ := g T w'
  have hlt : j.toNatClampNeg < vs.length := (List.getElem?_eq_some_iff.mp hv).1
  exact ⟨t, o, X.baloadBooleans hx (v := .int x) q1 (State.isArrayOf_alike hZ.alike q2.1) q2.2.1 (nb_of h0 (by rw [q2.size]; exact hlt)) (by rw [q2.2.2.1]; simp [hv]) (g := mkF m pc Ls (.int j :: .ref a :: st)) rfl rfl (hb hby hd) _ hs, r⟩
theorem s_laload (H : Ok Z k R Q y b ml rt) {i : Nat} {a : Addr} {vs : List Int64} {j : Int32} {x : Int64} (hd : decode b pc = .ok (.laload, 1)) (hi : M[i]? = some (a, ArL Z vs)) (h0 : ¬ j < 0) {jn : Nat} (hjn : j.toNatClampNeg = jn) (hv : vs[jn]? = some x) (hp : pc + 1 = pc') (g : Go Z k cn sn M pc' Ls (.long x :: st)) : Go Z k cn sn M pc Ls (.int j :: .ref a :: st) := by
  obtain ⟨p, l, e, R', s, m, args, below, meth, c, Q'⟩ := k
  obtain ⟨hx, hZ, hby, -⟩ := H
  subst hp hjn
  intro T w
  have w' := w
  obtain ⟨locs, X, F, O⟩ := w
  obtain ⟨-, cl, q1, q2⟩ := O.2.1 i _ hi
  obtain ⟨t, o, hs, r⟩ := g T w'
  have hlt : j.toNatClampNeg < vs.length := (List.getElem?_eq_some_iff.mp hv).1
  exact ⟨t, o, X.laload hx (v := .long x) q1 (State.isArrayOf_alike hZ.alike q2.1) q2.2.1 (nb_of h0 (by rw [q2.size]; exact hlt)) (by rw [q2.2.2.1]; simp [hv]) (g := mkF m pc Ls (.int j :: .ref a :: st)) rfl rfl (hb hby hd) _ hs, r⟩
theorem s_iastore (H : Ok Z k R Q y b ml rt) {i : Nat} {a : Addr} {vs : List Int32} {j : Int32} {x : Int32} (hd : decode b pc = .ok (.iastore, 1)) (hi : M[i]? = some (a, ArI Z .int vs)) (h0 : ¬ j < 0) {jn : Nat} (hjn : j.toNatClampNeg = jn) (hj : jn < vs.length) (hp : pc + 1 = pc') (g : Go Z k cn sn (M.set i (a, ArI Z .int (vs.set jn x))) pc' Ls st) : Go Z k cn sn M pc Ls (.int x :: .int j :: .ref a :: st) := by
  obtain ⟨p, l, e, R', s, m, args, below, meth, c, Q'⟩ := k
  obtain ⟨hx, hZ, hby, -⟩ := H
  subst hp hjn
  intro T w
  obtain ⟨locs, X, F, O⟩ := w
  obtain ⟨q0, cl, q1, q2⟩ := O.2.1 i _ hi
  obtain ⟨T', h', X', e', W, sg⟩ := stI X hx hZ rfl (q2.arr q1) (j := j) (nb_of h0 (by rw [q2.size]; exact hj)) (g := mkF m pc Ls (.int x :: .int j :: .ref a :: st)) rfl rfl (hb hby hd)
  obtain ⟨t, o, hs, r⟩ := g T' ⟨_, X', Fr.snoc X' F q0, e' ▸ O.upd hi W fun c _ hc => hc.put _ rfl⟩
  exact ⟨t, o, sg _ hs, r⟩
theorem s_bastore (H : Ok Z k R Q y b ml rt) {i : Nat} {a : Addr} {vs : List Int32} {j : Int32} {x0 x : Int32} (hd : decode b pc = .ok (.bastore, 1)) (hi : M[i]? = some (a, ArI Z .byte vs)) (h0 : ¬ j < 0) {jn : Nat} (hjn : j.toNatClampNeg = jn) (hj : jn < vs.length) (hn : x = nar .byte x0) (hp : pc + 1 = pc') (g : Go Z k cn sn (M.set i (a, ArI Z .byte (vs.set jn x))) pc' Ls st) : Go Z k cn sn M pc Ls (.int x0 :: .int j :: .ref a :: st) := by
  obtain ⟨p, l, e, R', s, m, args, below, meth, c, Q'⟩ := k
  obtain ⟨hx, hZ, hby, -⟩ := H
  subst hp hjn hn
  intro T w
  obtain ⟨locs, X, F, O⟩ := w
  obtain ⟨q0, cl, q1, q2⟩ := O.2.1 i _ hi
  obtain ⟨T', h', X', e', W, sg⟩ := stB X hx hZ rfl (q2.arr q1) (j := j) (nb_of h0 (by rw [q2.size]; exact hj)) (g := mkF m pc Ls (.int x0 :: .int j :: .ref a :: st)) rfl rfl (hb hby hd)
  obtain ⟨t, o, hs, r⟩ := g T' ⟨_, X', Fr.snoc X' F q0, e' ▸ O.upd hi W fun c _ hc => hc.put _ (fits_nar_byte _)⟩
  exact ⟨t, o, sg _ hs, r⟩
theorem s_zastore (H : Ok Z k R Q y b ml rt) {i : Nat} {a : Addr} {vs : List Int32} {j : Int32} {x0 x : Int32} (hd : decode b pc = .ok (.bastore, 1)) (hi : M[i]? = some (a, ArI Z .boolean vs)) (h0 : ¬ j < 0) {jn : Nat} (hjn : j.toNatClampNeg = jn) (hj : jn < vs.length) (hn : x = nar .boolean x0) (hp : pc + 1 = pc') (g : Go Z k cn sn (M.set i (a, ArI Z .boolean (vs.set jn x))) pc' Ls st) : Go Z k cn sn M pc Ls (.int x0 :: .int j :: .ref a :: st) := by
  obtain ⟨p, l, e, R', s, m, args, below, meth, c, Q'⟩ := k
  obtain ⟨hx, hZ, hby, -⟩ := H
  subst hp hjn hn
  intro T w
  obtain ⟨locs, X, F, O⟩ := w
  obtain ⟨q0, cl, q1, q2⟩ := O.2.1 i _ hi
  obtain ⟨T', h', X', e', W, sg⟩ := stZ X hx hZ rfl (q2.arr q1) (j := j) (nb_of h0 (by rw [q2.size]; exact hj)) (g := mkF m pc Ls (.int x0 :: .int j :: .ref a :: st)) rfl rfl (hb hby hd)
  obtain ⟨t, o, hs, r⟩ := g T' ⟨_, X', Fr.snoc X' F q0, e' ▸ O.upd hi W fun c _ hc => hc.put _ (fits_nar_bool _)⟩
  exact ⟨t, o, sg _ hs, r⟩
theorem s_lastore (H : Ok Z k R Q y b ml rt) {i : Nat} {a : Addr} {vs : List Int64} {j : Int32} {x : Int64} (hd : decode b pc = .ok (.lastore, 1)) (hi : M[i]? = some (a, ArL Z vs)) (h0 : ¬ j < 0) {jn : Nat} (hjn : j.toNatClampNeg = jn) (hj : jn < vs.length) (hp : pc + 1 = pc') (g : Go Z k cn sn (M.set i (a, ArL Z (vs.set jn x))) pc' Ls st) : Go Z k cn sn M pc Ls (.long x :: .int j :: .ref a :: st) := by
  obtain ⟨p, l, e, R', s, m, args, below, meth, c, Q'⟩ := k
  obtain ⟨hx, hZ, hby, -⟩ := H
  subst hp hjn
  intro T w
  obtain ⟨locs, X, F, O⟩ := w
  obtain ⟨q0, cl, q1, q2⟩ := O.2.1 i _ hi
  obtain ⟨T', h', X', e', W, sg⟩ := stJ X hx hZ rfl (q2.arr q1) (j := j) (nb_of h0 (by rw [q2.size]; exact hj)) (g := mkF m pc Ls (.long x :: .int j :: .ref a :: st)) rfl rfl (hb hby hd)
  obtain ⟨t, o, hs, r⟩ := g T' ⟨_, X', Fr.snoc X' F q0, e' ▸ O.upd hi W fun c _ hc => hc.put _⟩
  exact ⟨t, o, sg _ hs, r⟩
theorem s_getf (H : Ok Z k R Q y b ml rt) {i j idx : Nat} {a : Addr} {C O n d : String} {fs : List Fd} {v : Value} (hd : decode b pc = .ok (.getfield idx, 3)) (w1 : Jvm.Cond.fieldLink y.cls idx O n d ∈ tables_1) (hi : M[i]? = some (a, Obj Z C fs)) (hj : fs[j]? = some (O, n, d, v)) (hp : pc + 3 = pc') (g : Go Z k cn sn M pc' Ls (v :: st)) : Go Z k cn sn M pc Ls (.ref a :: st) := by
  obtain ⟨p, l, e, R', s, m, args, below, meth, c, Q'⟩ := k
  obtain ⟨hx, hZ, hby, -, hown, -, -, -, ⟨a0, hw⟩, -⟩ := H
  subst hp
  intro T w
  obtain ⟨locs, X, F, OO⟩ := w
  obtain ⟨-, cl, q1, q2⟩ := OO.2.1 i _ hi
  obtain ⟨T', X', e', sg⟩ := getF X hx hZ hown (host := "") (Or.inl (hw _ w1)) Via.refl rfl ((q2.1 _ _ q1).2 j _ hj) (g := mkF m pc Ls (.ref a :: st)) rfl rfl (hb hby hd)
  obtain ⟨t, o, hs, r⟩ := g T' ⟨_, X', F, e' ▸ OO⟩
  exact ⟨t, o, sg _ hs, r⟩
theorem s_getfN (H : Ok Z k R Q y b ml rt) {i j idx : Nat} {a : Addr} {C O n d host : String} {fs : List Fd} {v : Value} (hd : decode b pc = .ok (.getfield idx, 3)) (w1 : Jvm.Cond.fieldLinkNest y.cls idx O n d host ∈ tables_1) (hi : M[i]? = some (a, Obj Z C fs)) (hj : fs[j]? = some (O, n, d, v)) (hp : pc + 3 = pc') (g : Go Z k cn sn M pc' Ls (v :: st)) : Go Z k cn sn M pc Ls (.ref a :: st) := by
  obtain ⟨p, l, e, R', s, m, args, below, meth, c, Q'⟩ := k
  obtain ⟨hx, hZ, hby, -, hown, -, -, -, ⟨a0, hw⟩, -⟩ := H
  subst hp
  intro T w
  obtain ⟨locs, X, F, OO⟩ := w
  obtain ⟨-, cl, q1, q2⟩ := OO.2.1 i _ hi
  obtain ⟨T', X', e', sg⟩ := getF X hx hZ hown (host := host) (Or.inr (hw _ w1)) Via.refl rfl ((q2.1 _ _ q1).2 j _ hj) (g := mkF m pc Ls (.ref a :: st)) rfl rfl (hb hby hd)
  obtain ⟨t, o, hs, r⟩ := g T' ⟨_, X', F, e' ▸ OO⟩
  exact ⟨t, o, sg _ hs, r⟩
theorem s_putf (H : Ok Z k R Q y b ml rt) {i j idx kk : Nat} {a : Addr} {C O n d : String} {fs : List Fd} {v v0 : Value} {ty : FieldType} (hd : decode b pc = .ok (.putfield idx, 3)) (w1 : Jvm.Cond.fieldLink y.cls idx O n d ∈ tables_1) (w2 : Jvm.Cond.lays C O n d ∈ tables_1 ∨ (Jvm.Cond.laysFinal C O n d ∈ tables_1 ∧ y.cls = O ∧ y.name = "<init>")) (w3 : Jvm.Cond.instantiable C kk ∈ tables_1)
    (hty : parseFieldDescriptor d = some ty) (hn : narrow ty v = v) (hf : fits ty v = true) (hi : M[i]? = some (a, Obj Z C fs)) (hj : fs[j]? = some (O, n, d, v0)) (hp : pc + 3 = pc') (g : Go Z k cn sn (M.set i (a, Obj Z C (fs.set j (O, n, d, v)))) pc' Ls st) : Go Z k cn sn M pc Ls (v :: .ref a :: st) := by
  obtain ⟨p, l, e, R', s, m, args, below, meth, c, Q'⟩ := k
  obtain ⟨hx, hZ, hby, -, hown, hnm, -, -, ⟨a0, hw⟩, -⟩ := H
  subst hp
  intro T w
  obtain ⟨locs, X, F, OO⟩ := w
  obtain ⟨q0, cl, q1, q2⟩ := OO.2.1 i _ hi
  obtain ⟨T', h', X', e', W, sg⟩ := putF X hx hZ hown (host := "") (Or.inl (hw _ w1)) Via.refl rfl ((q2.1 _ _ q1).2 j _ hj) (q2.1 _ _ q1).1 (w2.imp (fun q => hw _ q) fun q => ⟨hw _ q.1, q.2.1, hnm.trans q.2.2⟩) (hw _ w3) hty hn hf (g := mkF m pc Ls (v :: .ref a :: st)) rfl rfl (hb hby hd)
  obtain ⟨t, o, hs, r⟩ := g T' ⟨_, X', Fr.snoc X' F q0, e' ▸ OO.upd hi W fun c hc1 hc => hc.put hj hc1 W⟩
  exact ⟨t, o, sg _ hs, r⟩
def Dflt (C : String) (f : Fd) : Prop := (Jvm.Cond.lays C f.1 f.2.1 f.2.2.1 ∈ tables_1 ∨ Jvm.Cond.laysFinal C f.1 f.2.1 f.2.2.1 ∈ tables_1) ∧ ∃ ty, parseFieldDescriptor f.2.2.1 = some ty ∧ f.2.2.2 = defaultValue ty
theorem s_new (H : Ok Z k R Q y b ml rt) {idx n cn' sn' : Nat} {C : String} (fs : List Fd) (hd : decode b pc = .ok (.new idx, 3)) (w1 : Jvm.Cond.classLink y.cls idx C ∈ tables_1) (w2 : Jvm.Cond.instantiable C n ∈ tables_1) (w3 : Jvm.Cond.initialized C ∈ tables_1) (hD : ∀ f ∈ fs, Dflt C f) (hN : (fs.map fun f => f.2.1).Nodup) (hc : cn + 1 = cn') (hs : sn + n = sn') (hc' : cn' ≤ R.cells) (hs' : sn' ≤ R.slots) (hp : pc + 3 = pc')
    (g : ∀ a, Go Z k cn' sn' ((a, Obj Z C fs) :: M) pc' Ls (.ref a :: st)) : Go Z k cn sn M pc Ls st := by
  obtain ⟨p, l, e, R', s, m, args, below, meth, c, Q'⟩ := k
  obtain ⟨hx, hZ, hby, -, hown, hnm, -, -, ⟨a0, hw⟩, rfl, -⟩ := H
  subst hp hc hs
  intro T w
  obtain ⟨locs, X, F, OO⟩ := w
  obtain ⟨T', h', X', e', E, A, D, ⟨cell, hcell, -⟩, sg⟩ := newO X hx hZ hown (hw _ w1) (hw _ w2) (hw _ w3) rfl (g := mkF m pc Ls st) rfl (hb hby hd) hc' hs'
  have hL : ∀ f ∈ fs, Laid Z a0 C f.1 f.2.1 f.2.2.1 := fun f hf => (hD f hf).1.imp (fun q => hw _ q) fun q => hw _ q
  have hB : Obj Z C fs cell := by
    refine ⟨fun h2 a2 hc2 => ⟨exa_at_cell A hcell hc2, fun i f hf => ?_⟩, fun i j f f' hf hf' es => ?_⟩
    · have hm := List.mem_of_getElem? hf
      obtain ⟨-, ty, h1, h2⟩ := hD f hm
      rw [h2]
      exact fld_at_cell (D (hL f hm) h1) hcell hc2
    · obtain ⟨-, ty, h1, -⟩ := hD f (List.mem_of_getElem? hf)
      obtain ⟨-, ty', h1', -⟩ := hD f' (List.mem_of_getElem? hf')
      have hne : f.2.1 = f'.2.1 := Classical.byContradiction fun q => slot_ne (hL f (List.mem_of_getElem? hf)) (hL f' (List.mem_of_getElem? hf')) q h1 h1' es
      rw [List.nodup_iff_pairwise_ne, List.pairwise_iff_getElem] at hN
      obtain ⟨hi, rfl⟩ := List.getElem?_eq_some_iff.mp hf
      obtain ⟨hj, rfl⟩ := List.getElem?_eq_some_iff.mp hf'
      rcases Nat.lt_trichotomy i j with lt | rfl | lt
      · exact (hN i j (by simpa using hi) (by simpa using hj) lt (by simpa using hne)).elim
      · rfl
      · exact (hN j i (by simpa using hj) (by simpa using hi) lt (by simpa using hne.symm)).elim
  obtain ⟨t, o, hs, r⟩ := g _ T' ⟨_, X', F, e' ▸ OO.new E hcell hB⟩
  exact ⟨t, o, sg _ hs, r⟩
theorem s_newarr_int (H : Ok Z k R Q y b ml rt) {cn' sn' cap : Nat} {n : Int32} (hd : decode b pc = .ok (.newarray .int, 2)) (w1 : Jvm.Cond.arrayClass .int ∈ tables_1) (hn : ¬ n < 0) (hcap : n.toNatClampNeg ≤ cap) (hb8 : cap * 8 ≤ 536870912) (hc : cn + 1 = cn') (hs : sn + cap = sn') (hc' : cn' ≤ R.cells) (hs' : sn' ≤ R.slots) (hp : pc + 2 = pc')
    (g : ∀ a, Go Z k cn' sn' ((a, ArI Z .int (List.replicate n.toNatClampNeg 0)) :: M) pc' Ls (.ref a :: st)) : Go Z k cn sn M pc Ls (.int n :: st) := by
  obtain ⟨p, l, e, R', s, m, args, below, meth, c, Q'⟩ := k
  obtain ⟨hx, hZ, hby, -, hown, hnm, -, -, ⟨a0, hw⟩, rfl, -⟩ := H
  subst hp hc hs
  intro T w
  obtain ⟨locs, X, F, OO⟩ := w
  obtain ⟨T', h', cA, X', e', E, A, sg⟩ := newP X hx hZ (aty := .int) (hw _ w1) rfl (g := mkF m pc Ls (.int n :: st)) rfl (hb hby hd) rfl hn hcap hb8 hc' hs'
  have hB : ArI Z .int (List.replicate n.toNatClampNeg 0) (newA cA .int n) := ⟨A.2.1, A.2.2, by simp [newA, defaultValue], by simp; omega, fun x hx => by rw [List.eq_of_mem_replicate hx]; rfl⟩
  obtain ⟨t, o, hs, r⟩ := g _ T' ⟨_, X', F, e' ▸ OO.new E A.1 hB⟩
  exact ⟨t, o, sg _ hs, r⟩
theorem s_newarr_byte (H : Ok Z k R Q y b ml rt) {cn' sn' cap : Nat} {n : Int32} (hd : decode b pc = .ok (.newarray .byte, 2)) (w1 : Jvm.Cond.arrayClass .byte ∈ tables_1) (hn : ¬ n < 0) (hcap : n.toNatClampNeg ≤ cap) (hb8 : cap * 8 ≤ 536870912) (hc : cn + 1 = cn') (hs : sn + cap = sn') (hc' : cn' ≤ R.cells) (hs' : sn' ≤ R.slots) (hp : pc + 2 = pc')
    (g : ∀ a, Go Z k cn' sn' ((a, ArI Z .byte (List.replicate n.toNatClampNeg 0)) :: M) pc' Ls (.ref a :: st)) : Go Z k cn sn M pc Ls (.int n :: st) := by
  obtain ⟨p, l, e, R', s, m, args, below, meth, c, Q'⟩ := k
  obtain ⟨hx, hZ, hby, -, hown, hnm, -, -, ⟨a0, hw⟩, rfl, -⟩ := H
  subst hp hc hs
  intro T w
  obtain ⟨locs, X, F, OO⟩ := w
  obtain ⟨T', h', cA, X', e', E, A, sg⟩ := newP X hx hZ (aty := .byte) (hw _ w1) rfl (g := mkF m pc Ls (.int n :: st)) rfl (hb hby hd) rfl hn hcap hb8 hc' hs'
  have hB : ArI Z .byte (List.replicate n.toNatClampNeg 0) (newA cA .byte n) := ⟨A.2.1, A.2.2, by simp [newA, defaultValue], by simp; omega, fun x hx => by rw [List.eq_of_mem_replicate hx]; rfl⟩
  obtain ⟨t, o, hs, r⟩ := g _ T' ⟨_, X', F, e' ▸ OO.new E A.1 hB⟩
  exact ⟨t, o, sg _ hs, r⟩
theorem s_newarr_bool (H : Ok Z k R Q y b ml rt) {cn' sn' cap : Nat} {n : Int32} (hd : decode b pc = .ok (.newarray .boolean, 2)) (w1 : Jvm.Cond.arrayClass .boolean ∈ tables_1) (hn : ¬ n < 0) (hcap : n.toNatClampNeg ≤ cap) (hb8 : cap * 8 ≤ 536870912) (hc : cn + 1 = cn') (hs : sn + cap = sn') (hc' : cn' ≤ R.cells) (hs' : sn' ≤ R.slots) (hp : pc + 2 = pc')
    (g : ∀ a, Go Z k cn' sn' ((a, ArI Z .boolean (List.replicate n.toNatClampNeg 0)) :: M) pc' Ls (.ref a :: st)) : Go Z k cn sn M pc Ls (.int n :: st) := by
  obtain ⟨p, l, e, R', s, m, args, below, meth, c, Q'⟩ := k
  obtain ⟨hx, hZ, hby, -, hown, hnm, -, -, ⟨a0, hw⟩, rfl, -⟩ := H
  subst hp hc hs
  intro T w
  obtain ⟨locs, X, F, OO⟩ := w
  obtain ⟨T', h', cA, X', e', E, A, sg⟩ := newP X hx hZ (aty := .boolean) (hw _ w1) rfl (g := mkF m pc Ls (.int n :: st)) rfl (hb hby hd) rfl hn hcap hb8 hc' hs'
  have hB : ArI Z .boolean (List.replicate n.toNatClampNeg 0) (newA cA .boolean n) := ⟨A.2.1, A.2.2, by simp [newA, defaultValue], by simp; omega, fun x hx => by rw [List.eq_of_mem_replicate hx]; rfl⟩
  obtain ⟨t, o, hs, r⟩ := g _ T' ⟨_, X', F, e' ▸ OO.new E A.1 hB⟩
  exact ⟨t, o, sg _ hs, r⟩
theorem s_newarr_long (H : Ok Z k R Q y b ml rt) {cn' sn' cap : Nat} {n : Int32} (hd : decode b pc = .ok (.newarray .long, 2)) (w1 : Jvm.Cond.arrayClass .long ∈ tables_1) (hn : ¬ n < 0) (hcap : n.toNatClampNeg ≤ cap) (hb8 : cap * 8 ≤ 536870912) (hc : cn + 1 = cn') (hs : sn + cap = sn') (hc' : cn' ≤ R.cells) (hs' : sn' ≤ R.slots) (hp : pc + 2 = pc')
    (g : ∀ a, Go Z k cn' sn' ((a, ArL Z (List.replicate n.toNatClampNeg 0)) :: M) pc' Ls (.ref a :: st)) : Go Z k cn sn M pc Ls (.int n :: st) := by
  obtain ⟨p, l, e, R', s, m, args, below, meth, c, Q'⟩ := k
  obtain ⟨hx, hZ, hby, -, hown, hnm, -, -, ⟨a0, hw⟩, rfl, -⟩ := H
  subst hp hc hs
  intro T w
  obtain ⟨locs, X, F, OO⟩ := w
  obtain ⟨T', h', cA, X', e', E, A, sg⟩ := newP X hx hZ (aty := .long) (hw _ w1) rfl (g := mkF m pc Ls (.int n :: st)) rfl (hb hby hd) rfl hn hcap hb8 hc' hs'
  have hB : ArL Z (List.replicate n.toNatClampNeg 0) (newA cA .long n) := ⟨A.2.1, A.2.2, by simp [newA, defaultValue], by simp; omega⟩
  obtain ⟨t, o, hs, r⟩ := g _ T' ⟨_, X', F, e' ▸ OO.new E A.1 hB⟩
  exact ⟨t, o, sg _ hs, r⟩
/-! OWN KIT 3: contracts and calls -/
def MQ (Z : State) (rm : Room) (Q : Option Value → Hp → Prop) (U : State) (o : Outcome) (U' : State) : Prop := ∃ v L, o = .returned v ∧ (Fr Z.heap.size L ∧ ∃ M, Q v M ∧ Own Z U'.heap M) ∧ FrameEnd U o U' L rm.cells rm.slots
def Met (Z : State) (y : MethodName) (b : ByteArray) (ml : Nat) (rt : Option FieldType) (rm : Room) (as : List Value) (M : Hp) (Q : Option Value → Hp → Prop) : Prop :=
  ∀ (l : Launch) (h0 : Heap), Own Z h0 M → MetFree l y (head1 [Jvm.Cond.code y b ml rt] rm) (fun a U => a = as.toArray ∧ Z.Warmed39 U.vm ∧ U.heap = h0) (fun _ _ _ _ _ => True) (fun _ U o U' => ∃ v L, o = .returned v ∧ (Fr Z.heap.size L ∧ ∃ M, Q v M ∧ Own Z U'.heap M) ∧ FrameEnd U o U' L rm.cells rm.slots)
theorem met_of {ws : List Jvm.Cond} {as : List Value} {rm : Room} {h0 : Heap} (l : Launch) (hT : Tb Z) (hpl : plainFor y = true) (hef : ∀ m, entryFrame m as.toArray ml = mkF m 0 Ls []) (hO : Own Z h0 M) (body : ∀ k, Ok Z k rm Q y b ml rt → Go Z k 0 0 M 0 Ls []) :
    MetFree l y (head1 (Jvm.Cond.code y b ml rt :: ws) rm) (fun a U => a = as.toArray ∧ Z.Warmed39 U.vm ∧ U.heap = h0) (fun _ _ _ _ _ => True) (fun _ U o U' => ∃ v L, o = .returned v ∧ (Fr Z.heap.size L ∧ ∃ M, Q v M ∧ Own Z U'.heap M) ∧ FrameEnd U o U' L rm.cells rm.slots) := by
  refine MetFree.of_bodySF hpl hisR ?_
  intro p e s m args below meth c s₁ Bd hml0 hP hK
  obtain ⟨rfl, hZ, hh⟩ := hP
  have X0 : Stand p l e rm s m as.toArray below meth c s₁ [] 0 0 := Stand.of_body Bd
  have e0 : s₁.heap = h0 := by rw [← hh, Bd.state]; rfl
  obtain ⟨t, o, hs, r⟩ := body (p, l, e, rm, s, m, as.toArray, below, meth, c, Q) ⟨Bd.exec, hZ, Bd.bytes, hml0, findClass_of_methodNamed Bd.named, (name_of_methodNamed Bd.named Bd.method).1, Bd.returns, Bd.notSynchronized, hT, rfl, rfl⟩ s₁ ⟨[], X0, Fr.nil _, e0 ▸ hO⟩
  exact ⟨t, o, castTop (hef m) hs, r⟩
theorem Met.of {as : List Value} {rm : Room} (hT : Tb Z) (hpl : plainFor y = true) (hef : ∀ m, entryFrame m as.toArray ml = mkF m 0 Ls []) (body : ∀ k, Ok Z k rm Q y b ml rt → Go Z k 0 0 M 0 Ls []) : Met Z y b ml rt rm as M Q := fun l h0 hO => met_of l hT hpl hef hO body
theorem Met.mono {as : List Value} {rm : Room} {Q' : Option Value → Hp → Prop} (h : Met Z y b ml rt rm as M Q) (q : ∀ v M, Q v M → Q' v M) : Met Z y b ml rt rm as M Q' := fun l h0 hO p e ha hc hk s m args below hf happ hP hK => by
  obtain ⟨n, o, h1, h2, h3, v, L, h4, ⟨h5, M', h6, h7⟩, h8⟩ := h l h0 hO p e ha hc hk s m args below hf happ hP hK
  exact ⟨n, o, h1, h2, h3, v, L, h4, ⟨h5, M', q _ _ h6, h7⟩, h8⟩
theorem s_ret (H : Ok Z k R Q y b ml (some ty)) {i : Instr} {w : Value} (hd : decode b pc = .ok (i, 1)) (hn : narrow ty w = w)
    (hi : (i = .ireturn ∧ (ty = .int ∨ ty = .boolean ∨ ty = .byte ∨ ty = .char ∨ ty = .short) ∧ ∃ z, w = .int z) ∨ (i = .lreturn ∧ ty = .long ∧ ∃ z, w = .long z) ∨ (i = .dreturn ∧ ty = .double ∧ ∃ z, w = .double z) ∨ (i = .freturn ∧ ty = .float ∧ ∃ z, w = .float z) ∨ (i = .areturn ∧ ty.isReference = true ∧ w.isRef = true))
    (hc : cn ≤ R.cells) (hs : sn ≤ R.slots) (q : Q (some w) M) : Go Z k cn sn M pc Ls (w :: st) := by
  obtain ⟨p, l, e, R', s, m, args, below, meth, c, Q'⟩ := k
  obtain ⟨hx, hZ, hby, -, -, -, hret, hlk, -, rfl, rfl⟩ := H
  intro T w'
  obtain ⟨locs, X, F, O⟩ := w'
  obtain ⟨fs, hr, hrun, hended, hW, hsame⟩ := X.leave (v := some w) (fun h => by rw [hret] at h; cases h) hlk
  exact ⟨_, _, retOut X hx hret hn hi (hb hby hd) hr, hrun, hended, _, _, rfl, ⟨F, M, q, O⟩, ⟨_, rfl⟩, hW, hsame.mono hc hs⟩
theorem s_iret (H : Ok Z k R Q y b ml (some ty)) {z : Int32} (hd : decode b pc = .ok (.ireturn, 1)) (hn : narrow ty (.int z) = .int z) (ht : ty = .int ∨ ty = .boolean ∨ ty = .byte ∨ ty = .char ∨ ty = .short) (hc : cn ≤ R.cells) (hs : sn ≤ R.slots) (q : Q (some (.int z)) M) : Go Z k cn sn M pc Ls (.int z :: st) := s_ret H hd hn (Or.inl ⟨rfl, ht, z, rfl⟩) hc hs q
theorem s_lret (H : Ok Z k R Q y b ml (some .long)) {z : Int64} (hd : decode b pc = .ok (.lreturn, 1)) (hc : cn ≤ R.cells) (hs : sn ≤ R.slots) (q : Q (some (.long z)) M) : Go Z k cn sn M pc Ls (.long z :: st) := s_ret H hd rfl (Or.inr (Or.inl ⟨rfl, rfl, z, rfl⟩)) hc hs q
theorem s_aret (H : Ok Z k R Q y b ml (some ty)) {a : Addr} (hd : decode b pc = .ok (.areturn, 1)) (hn : narrow ty (.ref a) = .ref a) (ht : ty.isReference = true) (hc : cn ≤ R.cells) (hs : sn ≤ R.slots) (q : Q (some (.ref a)) M) : Go Z k cn sn M pc Ls (.ref a :: st) := s_ret H hd hn (Or.inr (Or.inr (Or.inr (Or.inr ⟨rfl, ht, rfl⟩)))) hc hs q
theorem s_vret (H : Ok Z k R Q y b ml none) (hd : decode b pc = .ok (.return_, 1)) (hc : cn ≤ R.cells) (hs : sn ≤ R.slots) (q : Q none M) : Go Z k cn sn M pc Ls [] := by
  obtain ⟨p, l, e, R', s, m, args, below, meth, c, Q'⟩ := k
  obtain ⟨hx, hZ, hby, -, -, -, hret, hlk, -, rfl, rfl⟩ := H
  intro T w'
  obtain ⟨locs, X, F, O⟩ := w'
  obtain ⟨fs, hr, hrun, hended, hW, hsame⟩ := X.leave (v := none) (fun _ => rfl) hlk
  exact ⟨_, _, X.returnOut hx hret (hb hby hd) hr, hrun, hended, _, _, rfl, ⟨F, M, q, O⟩, ⟨_, rfl⟩, hW, hsame.mono hc hs⟩
theorem s_objinit (H : Ok Z k R Q y b ml rt) {idx : Nat} {a : Addr} (hd : decode b pc = .ok (.invokespecial idx, 3)) (w1 : Jvm.Cond.methodLink y.cls idx Lib.objectInit ∈ tables_1) (w2 : Jvm.Cond.instanceMethod Lib.objectInit ∈ tables_1) (w3 : Jvm.Cond.code Lib.objectInit ⟨#[0xb1]⟩ 1 none ∈ tables_1) (hsz : Ls.size = ml) (hf : 1 ≤ R.frames) (hl : (st.map fun v => v.category).sum + 12 ≤ R.locals) (hp : pc + 3 = pc') (g : Go Z k cn sn M pc' Ls st) : Go Z k cn sn M pc Ls (.ref a :: st) := by
  obtain ⟨p, l, e, R', s, m, args, below, meth, c, Q'⟩ := k
  obtain ⟨hx, hZ, hby, hml, hown, hnm, -, -, ⟨a0, hw⟩, rfl, -⟩ := H
  subst hp
  intro T w
  obtain ⟨locs, X, F, OO⟩ := w
  obtain ⟨T', X', e', sg⟩ := initO X hx hZ hown (hw _ w1) (hw _ w2) (hw _ w3) rfl (g := mkF m pc Ls (.ref a :: st)) rfl (by rw [hml]; exact hsz) rfl (hb hby hd) hf (W := (st.map fun v => v.category).sum) (by show 2 * 0 + _ ≤ _; omega) hl
  obtain ⟨t, o, hs, r⟩ := g T' ⟨_, X', F, e' ▸ OO⟩
  exact ⟨t, o, sg _ hs, r⟩
theorem s_static (H : Ok Z k R Q y b ml rt) {idx cn' sn' : Nat} {y' : MethodName} {b' : ByteArray} {ml' : Nat} {rt' : Option FieldType} {rm : Room} {as rest : List Value} {Q' : Option Value → Hp → Prop} {sig : MethodDescriptor}
    (hM : Met Z y' b' ml' rt' rm as M Q') (hd : decode b pc = .ok (.invokestatic idx, 3)) (w1 : Jvm.Cond.methodLink y.cls idx y' ∈ tables_1) (w2 : Jvm.Cond.static y' ∈ tables_1) (w3 : Jvm.Cond.initialized y'.cls ∈ tables_1) (w4 : Jvm.Cond.code y' b' ml' rt' ∈ tables_1) (hy : y'.cls ≠ "java/lang/invoke/MethodHandle" ∧ y'.cls ≠ "java/lang/invoke/VarHandle")
    (hsig : parseMethodDescriptor y'.desc = some sig) (hlen : as.length = sig.parameters.length) (hst : st = as.reverse ++ rest) (hsz : Ls.size = ml) (hf : rm.frames + 1 ≤ R.frames) (hl : (rest.map fun v => v.category).sum + (ml' + 11) + rm.locals ≤ R.locals) (hc : cn + rm.cells = cn') (hs : sn + rm.slots = sn') (hc' : cn' ≤ R.cells) (hs' : sn' ≤ R.slots) (hp : pc + 3 = pc')
    (g : ∀ v M', Q' v M' → Go Z k cn' sn' M' pc' Ls (v.toList ++ rest)) : Go Z k cn sn M pc Ls st := by
  obtain ⟨p, l, e, R', s, m, args, below, meth, c, Q''⟩ := k
  obtain ⟨hx, hZ, hby, hml, hown, hnm, -, -, ⟨a0, hw⟩, rfl, -⟩ := H
  subst hp hc hs hst
  intro T w
  obtain ⟨locs, X, F, OO⟩ := w
  obtain ⟨v, _, ⟨T', L', k', n'⟩, -, X', ⟨Lc, ⟨hF, M', hQ, hO⟩, q1, q2, q3⟩, sg⟩ := Jvm.LawKit.callS X hx (y := y') hown (mvT hZ (hw _ w1)) (mvT hZ (hw _ w2)) (mvT hZ (hw _ w3)) (mvT hZ (hw _ w4)) hy (backOf (W := (rest.map fun v => v.category).sum) (Q := fun v h L => Fr Z.heap.size L ∧ ∃ M', Q' v M' ∧ Own Z h M') (hM l _ OO) hZ (hw _ w4) (hw _ w3) hf hl) (g := mkF m pc Ls (as.reverse ++ rest)) rfl (by rw [hml]; exact hsz) (argsL := as) (rest := rest) (lenOf (ps := sig.parameters) (r := sig.returnType) hsig hlen) rfl (by show 2 * 0 + _ ≤ _; omega) (hb hby hd) (fun _ _ => ⟨rfl, rfl, hc', hs'⟩)
  dsimp only [Pt.U, Pt.locs, Pt.cells, Pt.slots] at X' q1 q2 q3 sg hO
  subst q1 q2 q3
  obtain ⟨t, o, hs, r⟩ := g v M' hQ T' ⟨_, X', Fr.app F hF, hO⟩
  exact ⟨t, o, sg _ hs, r⟩
theorem s_init (H : Ok Z k R Q y b ml rt) {idx cn' sn' : Nat} {a : Addr} {y' : MethodName} {b' : ByteArray} {ml' : Nat} {rm : Room} {as rest : List Value} {Q' : Option Value → Hp → Prop} {sig : MethodDescriptor}
    (hM : Met Z y' b' ml' none rm (.ref a :: as) M Q') (hd : decode b pc = .ok (.invokespecial idx, 3)) (hy1 : y'.name = "<init>") (w1 : Jvm.Cond.methodLink y.cls idx y' ∈ tables_1) (w2 : Jvm.Cond.instanceMethod y' ∈ tables_1) (w3 : Jvm.Cond.initialized y'.cls ∈ tables_1) (w4 : Jvm.Cond.code y' b' ml' none ∈ tables_1) (hy : y'.cls ≠ "java/lang/invoke/MethodHandle" ∧ y'.cls ≠ "java/lang/invoke/VarHandle")
    (hsig : parseMethodDescriptor y'.desc = some sig) (hlen : as.length = sig.parameters.length) (hst : st = as.reverse ++ .ref a :: rest) (hsz : Ls.size = ml) (hf : rm.frames + 1 ≤ R.frames) (hl : (rest.map fun v => v.category).sum + (ml' + 11) + rm.locals ≤ R.locals) (hc : cn + rm.cells = cn') (hs : sn + rm.slots = sn') (hc' : cn' ≤ R.cells) (hs' : sn' ≤ R.slots) (hp : pc + 3 = pc')
    (g : ∀ v M', Q' v M' → Go Z k cn' sn' M' pc' Ls (v.toList ++ rest)) : Go Z k cn sn M pc Ls st := by
  obtain ⟨p, l, e, R', s, m, args, below, meth, c, Q''⟩ := k
  obtain ⟨hx, hZ, hby, hml, hown, hnm, -, -, ⟨a0, hw⟩, rfl, -⟩ := H
  subst hp hc hs hst
  intro T w
  obtain ⟨locs, X, F, OO⟩ := w
  obtain ⟨v, _, ⟨T', L', k', n'⟩, -, X', ⟨Lc, ⟨hF, M', hQ, hO⟩, q1, q2, q3⟩, sg⟩ := X.specialBack hx (y := y') hy1 hown (mvT hZ (hw _ w1)) (mvT hZ (hw _ w2)) (mvT hZ (hw _ w4)) hy (backOf (W := (rest.map fun v => v.category).sum) (Q := fun v h L => Fr Z.heap.size L ∧ ∃ M', Q' v M' ∧ Own Z h M') (hM l _ OO) hZ (hw _ w4) (hw _ w3) hf hl) (g := mkF m pc Ls (as.reverse ++ .ref a :: rest)) rfl (by rw [hml]; exact hsz) (Steps.refl _) (a := a) (argsL := as) (rest := rest) (lenOf (ps := sig.parameters) (r := sig.returnType) hsig hlen) rfl (by show 2 * 0 + _ ≤ _; omega) (hb hby hd) (fun _ _ => ⟨rfl, rfl, hc', hs'⟩)
  dsimp only [Pt.U, Pt.locs, Pt.cells, Pt.slots] at X' q1 q2 q3 sg hO
  subst q1 q2 q3
  obtain ⟨t, o, hs, r⟩ := g v M' hQ T' ⟨_, X', Fr.app F hF, hO⟩
  exact ⟨t, o, sg.trans hs, r⟩
theorem s_virtual (H : Ok Z k R Q y b ml rt) {i idx cn' sn' : Nat} {a : Addr} {C : String} {fs : List Fd} {y' : MethodName} {b' : ByteArray} {ml' : Nat} {rt' : Option FieldType} {rm : Room} {as rest : List Value} {Q' : Option Value → Hp → Prop} {sig : MethodDescriptor}
    (hM : Met Z y' b' ml' rt' rm (.ref a :: as) M Q') (hd : decode b pc = .ok (.invokevirtual idx, 3)) (hi : M[i]? = some (a, Obj Z C fs)) (w1 : Jvm.Cond.methodLink y.cls idx y' ∈ tables_1) (w2 : Jvm.Cond.declares y' ∈ tables_1) (w5 : Jvm.Cond.selects C y' y' ∈ tables_1) (w6 : Jvm.Cond.instanceMethod y' ∈ tables_1) (w3 : Jvm.Cond.initialized y'.cls ∈ tables_1) (w4 : Jvm.Cond.code y' b' ml' rt' ∈ tables_1) (hy : y'.cls ≠ "java/lang/invoke/MethodHandle" ∧ y'.cls ≠ "java/lang/invoke/VarHandle")
    (hsig : parseMethodDescriptor y'.desc = some sig) (hlen : as.length = sig.parameters.length) (hst : st = as.reverse ++ .ref a :: rest) (hsz : Ls.size = ml) (hf : rm.frames + 1 ≤ R.frames) (hl : (rest.map fun v => v.category).sum + (ml' + 11) + rm.locals ≤ R.locals) (hc : cn + rm.cells = cn') (hs : sn + rm.slots = sn') (hc' : cn' ≤ R.cells) (hs' : sn' ≤ R.slots) (hp : pc + 3 = pc')
    (g : ∀ v M', Q' v M' → Go Z k cn' sn' M' pc' Ls (v.toList ++ rest)) : Go Z k cn sn M pc Ls st := by
  obtain ⟨p, l, e, R', s, m, args, below, meth, c, Q''⟩ := k
  obtain ⟨hx, hZ, hby, hml, hown, hnm, -, -, ⟨a0, hw⟩, rfl, -⟩ := H
  subst hp hc hs hst
  intro T w
  obtain ⟨locs, X, F, OO⟩ := w
  obtain ⟨-, cl, c1, c2⟩ := OO.2.1 i _ hi
  obtain ⟨cq, kq, qa, qb, qc⟩ := isOf hZ rfl (c2.1 _ _ c1).1
  obtain ⟨v, _, ⟨T', L', k', n'⟩, -, X', ⟨Lc, ⟨hF, M', hQ, hO⟩, q1, q2, q3⟩, sg⟩ := X.virtualBack hx (y := y') (z := y') hown (mvT hZ (hw _ w1)) (mvT hZ (hw _ w2)) (notFace_of_selects (args := #[]) (mvT hZ (hw _ w5))) (mvT hZ (hw _ w5)) (mvT hZ (hw _ w6)) hy (backOf (W := (rest.map fun v => v.category).sum) (Q := fun v h L => Fr Z.heap.size L ∧ ∃ M', Q' v M' ∧ Own Z h M') (hM l _ OO) hZ (hw _ w4) (hw _ w3) hf hl) qa qc (g := mkF m pc Ls (as.reverse ++ .ref a :: rest)) rfl (by rw [hml]; exact hsz) (Steps.refl _) (argsL := as) (rest := rest) (lenOf (ps := sig.parameters) (r := sig.returnType) hsig hlen) rfl (by show 2 * 0 + _ ≤ _; omega) (hb hby hd) (fun _ _ => ⟨rfl, rfl, hc', hs'⟩)
  dsimp only [Pt.U, Pt.locs, Pt.cells, Pt.slots] at X' q1 q2 q3 sg hO
  subst q1 q2 q3
  obtain ⟨t, o, hs, r⟩ := g v M' hQ T' ⟨_, X', Fr.app F hF, hO⟩
  exact ⟨t, o, sg.trans hs, r⟩
theorem s_priv (H : Ok Z k R Q y b ml rt) {i idx cn' sn' : Nat} {a : Addr} {C : String} {fs : List Fd} {y' y0 : MethodName} {b' : ByteArray} {ml' : Nat} {rt' : Option FieldType} {rm : Room} {as rest : List Value} {Q' : Option Value → Hp → Prop} {sig : MethodDescriptor}
    (hM : Met Z y' b' ml' rt' rm (.ref a :: as) M Q') (hd : decode b pc = .ok (.invokevirtual idx, 3)) (hi : M[i]? = some (a, Obj Z C fs)) (w1 : Jvm.Cond.methodLink y.cls idx y' ∈ tables_1) (w2 : Jvm.Cond.privateMethod y' ∈ tables_1) (w5 : Jvm.Cond.selects y'.cls y0 y0 ∈ tables_1) (h0 : y0.cls = y'.cls) (w6 : Jvm.Cond.instanceMethod y' ∈ tables_1) (w3 : Jvm.Cond.initialized y'.cls ∈ tables_1) (w4 : Jvm.Cond.code y' b' ml' rt' ∈ tables_1) (hy : y'.cls ≠ "java/lang/invoke/MethodHandle" ∧ y'.cls ≠ "java/lang/invoke/VarHandle")
    (hsig : parseMethodDescriptor y'.desc = some sig) (hlen : as.length = sig.parameters.length) (hst : st = as.reverse ++ .ref a :: rest) (hsz : Ls.size = ml) (hf : rm.frames + 1 ≤ R.frames) (hl : (rest.map fun v => v.category).sum + (ml' + 11) + rm.locals ≤ R.locals) (hc : cn + rm.cells = cn') (hs : sn + rm.slots = sn') (hc' : cn' ≤ R.cells) (hs' : sn' ≤ R.slots) (hp : pc + 3 = pc')
    (g : ∀ v M', Q' v M' → Go Z k cn' sn' M' pc' Ls (v.toList ++ rest)) : Go Z k cn sn M pc Ls st := by
  obtain ⟨p, l, e, R', s, m, args, below, meth, c, Q''⟩ := k
  obtain ⟨hx, hZ, hby, hml, hown, hnm, -, -, ⟨a0, hw⟩, rfl, -⟩ := H
  subst hp hc hs hst
  intro T w
  obtain ⟨locs, X, F, OO⟩ := w
  obtain ⟨-, cl, c1, c2⟩ := OO.2.1 i _ hi
  obtain ⟨cl', d1, d2⟩ := (c2.1 _ _ c1).1.cell
  have hpriv : s.PrivateAt y' := Cond.privateMethod_at (mvP hZ (hw _ w2) (args := #[]))
  obtain ⟨mk, mM, hn, hm, hst, hab⟩ := Cond.instanceMethod_spec (mvT (args := #[]) hZ (hw _ w6))
  obtain ⟨c3, r3, m3, -, -, n3, -, kP, hk, hkI⟩ := Cond.selects_spec (mvT (args := #[]) hZ (hw _ w5))
  have e3 : m3.cls = mk.cls := by
    have u1 := findClass_of_methodNamed n3
    have u2 := findClass_of_methodNamed hn
    rw [h0, u2] at u1; exact (Option.some.inj u1).symm
  rw [e3] at hk
  obtain ⟨mM', cM, hm2, -, -, -, -, -, -, hsg⟩ := Cond.code_spec hn (mvT (args := #[]) hZ (hw _ w4))
  cases hm.symm.trans hm2
  obtain ⟨vm₁, X₁, st₁⟩ := X.invokevirtual hx hown (mvT hZ (hw _ w1)) hn hm hst hk hkI hy (a := a) d1 d2 (selectMethod_private hm (hpriv mk _ hn hm)) hm hab hk hkI (g := mkF m pc Ls (as.reverse ++ .ref a :: rest)) rfl (argsL := as) (rest := rest) (lenOf (ps := sig.parameters) (r := sig.returnType) hsig hlen _ hsg) rfl (hb hby hd)
  have hK := backOf (l := l) (p := p) (e := e) (below := below) (R := R') (args := args) (len := 3) (W := (rest.map fun v => v.category).sum) (Q := fun v h L => Fr Z.heap.size L ∧ ∃ M', Q' v M' ∧ Own Z h M') (hM l _ OO) hZ (hw _ w4) (hw _ w3) hf hl
  obtain ⟨v, ⟨T', L', k', n'⟩, X', ⟨Lc, ⟨hF, M', hQ, hO⟩, q1, q2, q3⟩, sg⟩ := hK m meth c ⟨T.setVm vm₁, locs, cn, sn⟩ (mkF m pc Ls rest) (.invokevirtual idx) mk (.ref a :: as).toArray X₁ rfl (by rw [hml]; exact hsz) (hb hby hd) (by show 2 * 0 + (rest.map fun v => v.category).sum ≤ _; omega) (X₁.named hn) ⟨rfl, rfl, hc', hs'⟩
  dsimp only [Pt.U, Pt.locs, Pt.cells, Pt.slots] at X' q1 q2 q3 sg hO
  subst q1 q2 q3
  obtain ⟨t, o, hs, r⟩ := g v M' hQ T' ⟨_, X', Fr.app F hF, hO⟩
  exact ⟨t, o, st₁ _ (fun acts => by rw [doInvoke_state]; exact sg.trans hs), r⟩
end Kit
theorem own_nat {m : Nat} (h : m < 2147483648) : m.toInt32.toNatClampNeg = m ∧ ¬ m.toInt32 < 0 ∧ m.toInt32.toInt = m := by
  have e : m.toInt32.toInt = m := Int32.toInt_ofNat_small (by omega)
  refine ⟨?_, ?_, e⟩
  · show m.toInt32.toInt.toNat = m
    rw [e]; rfl
  · rw [Int32.lt_iff_toInt_lt, e, show (0 : Int32).toInt = 0 from by decide]; omega
theorem own_lt {m n : Nat} (h : m < 2147483648) (h' : n < 2147483648) : m.toInt32 < n.toInt32 ↔ m < n := by rw [Int32.lt_iff_toInt_lt, (own_nat h).2.2, (own_nat h').2.2]; omega
theorem own_le {m n : Nat} (h : m < 2147483648) (h' : n < 2147483648) : m.toInt32 ≤ n.toInt32 ↔ m ≤ n := by rw [Int32.le_iff_toInt_le, (own_nat h).2.2, (own_nat h').2.2]; omega
theorem own_succ (m : Nat) : m.toInt32 + 1 = (m + 1).toInt32 := by
  show Int32.ofNat m + Int32.ofNat 1 = Int32.ofNat (m + 1)
  rw [← Int32.ofNat_add]
theorem allN {α : Type} {P : α → Prop} : ∀ x ∈ ([] : List α), P x := fun _ q => nomatch q
theorem allC {α : Type} {P : α → Prop} {z : α} {L : List α} (q : P z) (r : ∀ x ∈ L, P x) : ∀ x ∈ z :: L, P x := fun x h => (List.mem_cons.mp h).elim (fun u => u ▸ q) (r x)
abbrev y_1 : MethodName := ⟨"com/example/remint/remint/HashTree", "leafOf", "([BII)I"⟩
theorem d1_0 : decode prog_4_method_6_code 0 = .ok (.iload_n 1, 1) := by decide +kernel
theorem d1_1 : decode prog_4_method_6_code 1 = .ok (.bipush 32, 2) := by decide +kernel
theorem d1_3 : decode prog_4_method_6_code 3 = .ok (.iadd, 1) := by decide +kernel
theorem d1_4 : decode prog_4_method_6_code 4 = .ok (.istore_n 3, 1) := by decide +kernel
theorem d1_5 : decode prog_4_method_6_code 5 = .ok (.aload_n 0, 1) := by decide +kernel
theorem d1_6 : decode prog_4_method_6_code 6 = .ok (.iload_n 3, 1) := by decide +kernel
theorem d1_7 : decode prog_4_method_6_code 7 = .ok (.iconst 4, 1) := by decide +kernel
theorem d1_8 : decode prog_4_method_6_code 8 = .ok (.isub, 1) := by decide +kernel
theorem d1_9 : decode prog_4_method_6_code 9 = .ok (.baload, 1) := by decide +kernel
theorem d1_10 : decode prog_4_method_6_code 10 = .ok (.sipush 255, 3) := by decide +kernel
theorem d1_13 : decode prog_4_method_6_code 13 = .ok (.iand, 1) := by decide +kernel
theorem d1_14 : decode prog_4_method_6_code 14 = .ok (.bipush 24, 2) := by decide +kernel
theorem d1_16 : decode prog_4_method_6_code 16 = .ok (.ishl, 1) := by decide +kernel
theorem d1_17 : decode prog_4_method_6_code 17 = .ok (.aload_n 0, 1) := by decide +kernel
theorem d1_18 : decode prog_4_method_6_code 18 = .ok (.iload_n 3, 1) := by decide +kernel
theorem d1_19 : decode prog_4_method_6_code 19 = .ok (.iconst 3, 1) := by decide +kernel
theorem d1_20 : decode prog_4_method_6_code 20 = .ok (.isub, 1) := by decide +kernel
theorem d1_21 : decode prog_4_method_6_code 21 = .ok (.baload, 1) := by decide +kernel
theorem d1_22 : decode prog_4_method_6_code 22 = .ok (.sipush 255, 3) := by decide +kernel
theorem d1_25 : decode prog_4_method_6_code 25 = .ok (.iand, 1) := by decide +kernel
theorem d1_26 : decode prog_4_method_6_code 26 = .ok (.bipush 16, 2) := by decide +kernel
theorem d1_28 : decode prog_4_method_6_code 28 = .ok (.ishl, 1) := by decide +kernel
theorem d1_29 : decode prog_4_method_6_code 29 = .ok (.ior, 1) := by decide +kernel
theorem d1_30 : decode prog_4_method_6_code 30 = .ok (.aload_n 0, 1) := by decide +kernel
theorem d1_31 : decode prog_4_method_6_code 31 = .ok (.iload_n 3, 1) := by decide +kernel
theorem d1_32 : decode prog_4_method_6_code 32 = .ok (.iconst 2, 1) := by decide +kernel
theorem d1_33 : decode prog_4_method_6_code 33 = .ok (.isub, 1) := by decide +kernel
theorem d1_34 : decode prog_4_method_6_code 34 = .ok (.baload, 1) := by decide +kernel
theorem d1_35 : decode prog_4_method_6_code 35 = .ok (.sipush 255, 3) := by decide +kernel
theorem d1_38 : decode prog_4_method_6_code 38 = .ok (.iand, 1) := by decide +kernel
theorem d1_39 : decode prog_4_method_6_code 39 = .ok (.bipush 8, 2) := by decide +kernel
theorem d1_41 : decode prog_4_method_6_code 41 = .ok (.ishl, 1) := by decide +kernel
theorem d1_42 : decode prog_4_method_6_code 42 = .ok (.ior, 1) := by decide +kernel
theorem d1_43 : decode prog_4_method_6_code 43 = .ok (.aload_n 0, 1) := by decide +kernel
theorem d1_44 : decode prog_4_method_6_code 44 = .ok (.iload_n 3, 1) := by decide +kernel
theorem d1_45 : decode prog_4_method_6_code 45 = .ok (.iconst 1, 1) := by decide +kernel
theorem d1_46 : decode prog_4_method_6_code 46 = .ok (.isub, 1) := by decide +kernel
theorem d1_47 : decode prog_4_method_6_code 47 = .ok (.baload, 1) := by decide +kernel
theorem d1_48 : decode prog_4_method_6_code 48 = .ok (.sipush 255, 3) := by decide +kernel
theorem d1_51 : decode prog_4_method_6_code 51 = .ok (.iand, 1) := by decide +kernel
theorem d1_52 : decode prog_4_method_6_code 52 = .ok (.ior, 1) := by decide +kernel
theorem d1_53 : decode prog_4_method_6_code 53 = .ok (.istore 4, 2) := by decide +kernel
theorem d1_55 : decode prog_4_method_6_code 55 = .ok (.iload 4, 2) := by decide +kernel
theorem d1_57 : decode prog_4_method_6_code 57 = .ok (.iload_n 2, 1) := by decide +kernel
theorem d1_58 : decode prog_4_method_6_code 58 = .ok (.invokestatic 26, 3) := by decide +kernel
theorem d1_61 : decode prog_4_method_6_code 61 = .ok (.iconst 1, 1) := by decide +kernel
theorem d1_62 : decode prog_4_method_6_code 62 = .ok (.isub, 1) := by decide +kernel
theorem d1_63 : decode prog_4_method_6_code 63 = .ok (.iand, 1) := by decide +kernel
theorem d1_64 : decode prog_4_method_6_code 64 = .ok (.ireturn, 1) := by decide +kernel
theorem pl_1 : plainFor y_1 = true := plainFor_of_name (by first | (simp [plainName, overriddenIn]; done) | decide +kernel)
theorem pd_1 : parseMethodDescriptor "([BII)I" = some ⟨[(.array .byte), .int, .int], some .int⟩ := by decide +kernel
abbrev y_2 : MethodName := ⟨"com/example/remint/remint/HashTree", "leafCount", "(I)I"⟩
theorem d2_0 : decode prog_4_method_4_code 0 = .ok (.iconst 1, 1) := by decide +kernel
theorem d2_1 : decode prog_4_method_4_code 1 = .ok (.iload_n 0, 1) := by decide +kernel
theorem d2_2 : decode prog_4_method_4_code 2 = .ok (.iconst 1, 1) := by decide +kernel
theorem d2_3 : decode prog_4_method_4_code 3 = .ok (.isub, 1) := by decide +kernel
theorem d2_4 : decode prog_4_method_4_code 4 = .ok (.ishl, 1) := by decide +kernel
theorem d2_5 : decode prog_4_method_4_code 5 = .ok (.ireturn, 1) := by decide +kernel
theorem pl_2 : plainFor y_2 = true := plainFor_of_name (by first | (simp [plainName, overriddenIn]; done) | decide +kernel)
theorem pd_2 : parseMethodDescriptor "(I)I" = some ⟨[.int], some .int⟩ := by decide +kernel
def LQ : Option Value → Hp → Prop := fun v _ => v = some (.int 1)
theorem nar_i8 (x : Int32) : nar .byte x.toInt8.toInt32 = x.toInt8.toInt32 := by
  show x.toInt8.toInt32.toInt8.toInt32 = x.toInt8.toInt32
  have h := c_i2b x
  have h2 := c_i2b x.toInt8.toInt32
  apply Int32.toInt_inj.mp
  omega
theorem own_idx {o k : Nat} (h : o + k < 2147483648) : (o.toInt32 + k.toInt32).toNatClampNeg = o + k ∧ ¬ (o.toInt32 + k.toInt32) < 0 := by
  have e : o.toInt32 + k.toInt32 = (o + k).toInt32 := (Int32.ofNat_add o k).symm
  rw [e]; exact ⟨(own_nat h).1, (own_nat h).2.1⟩
theorem own_idx2 {o k c : Nat} (h : o + k < 2147483648) (hc : c ≤ o + k) : (o.toInt32 + k.toInt32 - c.toInt32).toNatClampNeg = o + k - c ∧ ¬ (o.toInt32 + k.toInt32 - c.toInt32) < 0 := by
  have e : o.toInt32 + k.toInt32 = (o + k).toInt32 := (Int32.ofNat_add o k).symm
  have e2 : (o + k).toInt32 - c.toInt32 = (o + k - c).toInt32 := by
    apply Int32.toInt_inj.mp
    have s := c_isub (o + k).toInt32 c.toInt32
    have r := rng32 ((o + k).toInt32 - c.toInt32)
    rw [(own_nat h).2.2, (own_nat (by omega)).2.2] at s
    rw [(own_nat (m := o + k - c) (by omega)).2.2]
    omega
  rw [e, e2]; exact ⟨(own_nat (by omega)).1, (own_nat (by omega)).2.1⟩
theorem own_get4 {vs : List Int32} {o : Nat} {x3 x2 x1 x0 : Int32} (h : vs.length = 40) (ho : o < 4) : ((((vs.set (o + 28) x3).set (o + 29) x2).set (o + 30) x1).set (o + 31) x0)[o + 32 - 4]? = some x3 ∧ ((((vs.set (o + 28) x3).set (o + 29) x2).set (o + 30) x1).set (o + 31) x0)[o + 32 - 3]? = some x2 ∧ ((((vs.set (o + 28) x3).set (o + 29) x2).set (o + 30) x1).set (o + 31) x0)[o + 32 - 2]? = some x1 ∧ ((((vs.set (o + 28) x3).set (o + 29) x2).set (o + 30) x1).set (o + 31) x0)[o + 32 - 1]? = some x0 := by
  rw [show o + 32 - 4 = o + 28 from by omega, show o + 32 - 3 = o + 29 from by omega, show o + 32 - 2 = o + 30 from by omega, show o + 32 - 1 = o + 31 from by omega]
  refine ⟨?_, ?_, ?_, ?_⟩
  · rw [List.getElem?_set_ne (by omega), List.getElem?_set_ne (by omega), List.getElem?_set_ne (by omega), List.getElem?_set_self (by omega)]
  · rw [List.getElem?_set_ne (by omega), List.getElem?_set_ne (by omega), List.getElem?_set_self (by simp only [List.length_set]; omega)]
  · rw [List.getElem?_set_ne (by omega), List.getElem?_set_self (by simp only [List.length_set]; omega)]
  · rw [List.getElem?_set_self (by simp only [List.length_set]; omega)]
abbrev by3 (w : Int32) : Int32 := ((w.toUInt32 >>> ((24 : Int32) &&& 31).toUInt32).toInt32).toInt8.toInt32
abbrev by2 (w : Int32) : Int32 := ((w.toUInt32 >>> ((16 : Int32) &&& 31).toUInt32).toInt32).toInt8.toInt32
abbrev by1 (w : Int32) : Int32 := ((w.toUInt32 >>> ((8 : Int32) &&& 31).toUInt32).toInt32).toInt8.toInt32
abbrev by0 (w : Int32) : Int32 := w.toInt8.toInt32
abbrev low4 (x3 x2 x1 x0 : Int32) : Int32 := ((((x3 &&& 255) <<< ((24 : Int32) &&& 31)) ||| ((x2 &&& 255) <<< ((16 : Int32) &&& 31))) ||| ((x1 &&& 255) <<< ((8 : Int32) &&& 31))) ||| (x0 &&& 255)
theorem own_low (w : Int32) : low4 (by3 w) (by2 w) (by1 w) (by0 w) = w := by
  have rw0 := rng32 w
  have u3 := c_iushr w 24 24 (by decide) (by decide)
  have u2 := c_iushr w 16 16 (by decide) (by decide)
  have u1 := c_iushr w 8 8 (by decide) (by decide)
  have b3 := c_i2b (w.toUInt32 >>> ((24 : Int32) &&& 31).toUInt32).toInt32
  have b2 := c_i2b (w.toUInt32 >>> ((16 : Int32) &&& 31).toUInt32).toInt32
  have b1 := c_i2b (w.toUInt32 >>> ((8 : Int32) &&& 31).toUInt32).toInt32
  have b0 := c_i2b w
  unfold low4 by3 by2 by1 by0
  generalize (w.toUInt32 >>> ((24 : Int32) &&& 31).toUInt32).toInt32.toInt8.toInt32 = x3 at *
  generalize (w.toUInt32 >>> ((16 : Int32) &&& 31).toUInt32).toInt32.toInt8.toInt32 = x2 at *
  generalize (w.toUInt32 >>> ((8 : Int32) &&& 31).toUInt32).toInt32.toInt8.toInt32 = x1 at *
  generalize w.toInt8.toInt32 = x0 at *
  have m3 := c_mask x3 255 8 (by decide) (by decide)
  have m2 := c_mask x2 255 8 (by decide) (by decide)
  have m1 := c_mask x1 255 8 (by decide) (by decide)
  have m0 := c_mask x0 255 8 (by decide) (by decide)
  generalize x3 &&& 255 = y3 at *
  generalize x2 &&& 255 = y2 at *
  generalize x1 &&& 255 = y1 at *
  generalize x0 &&& 255 = y0 at *
  have s3 := c_ishl y3 24 24 (by decide)
  have s2 := c_ishl y2 16 16 (by decide)
  have s1 := c_ishl y1 8 8 (by decide)
  generalize y3 <<< ((24 : Int32) &&& 31) = z3 at *
  generalize y2 <<< ((16 : Int32) &&& 31) = z2 at *
  generalize y1 <<< ((8 : Int32) &&& 31) = z1 at *
  have r3 := rng32 z3
  have r2 := rng32 z2
  have r1 := rng32 z1
  have o1 := c_or z3 z2 24 (by decide) 16777216 (by decide) (by omega) (by omega) (by omega)
  generalize z3 ||| z2 = p at *
  have o2 := c_or p z1 16 (by decide) 65536 (by decide) (by omega) (by omega) (by omega)
  generalize p ||| z1 = q at *
  have o3 := c_or q y0 8 (by decide) 256 (by decide) (by omega) (by omega) (by omega)
  generalize q ||| y0 = t at *
  have rt := rng32 t
  apply Int32.toInt_inj.mp
  omega
theorem own_tab : ∀ k : Fin 25, ((1 : Int32) <<< ((Int32.ofNat (k.val + 1) - 1) &&& 31) - 1).toBitVec.toNat = 2 ^ k.val - 1 ∧ ((1 : Int64) <<< ((Int32.ofNat (k.val + 1) - 1) &&& 0x3f).toInt64).toInt = (2 ^ k.val : Nat) := by decide +kernel
theorem own_fin (w h : Int32) (k : Nat) (hk : k < 25) (e : h = Int32.ofNat (k + 1)) : ((1 : Int64) <<< ((h - 1) &&& 0x3f).toInt64) ≠ 0 ∧ ¬ (w &&& (((1 : Int32) <<< ((h - 1) &&& 31)) - 1)) < 0 ∧ (w &&& (((1 : Int32) <<< ((h - 1) &&& 31)) - 1)).toInt64 = (w.toInt64 &&& 4294967295) % ((1 : Int64) <<< ((h - 1) &&& 0x3f).toInt64) := by
  obtain ⟨t1, t2⟩ := own_tab ⟨k, hk⟩
  dsimp only at t1 t2
  rw [← e] at t1 t2
  have m := c_mask w _ k (by omega) t1
  have ml := c_maskL w.toInt64 4294967295 32 (by decide) (by decide)
  rw [c_i2l] at ml
  have pw : (0 : Int) < ((2 ^ k : Nat) : Int) := by have := Nat.two_pow_pos k; omega
  refine ⟨fun q => ?_, ?_, ?_⟩
  · rw [q, show (0 : Int64).toInt = 0 from by decide] at t2; omega
  · rw [Int32.lt_iff_toInt_lt, m, show (0 : Int32).toInt = 0 from by decide]
    have := Int.emod_nonneg w.toInt (b := ((2 ^ k : Nat) : Int)) (by omega); omega
  · apply Int64.toInt_inj.mp
    rw [c_i2l, m, Int64.toInt_mod, t2, ml, Int.tmod_eq_emod_of_nonneg (Int.emod_nonneg _ (by decide))]
    have hd : (((2 ^ k : Nat) : Int)) ∣ (((2 ^ 32 : Nat) : Int)) := Int.ofNat_dvd.mpr (Nat.pow_dvd_pow 2 (by omega))
    exact (Int.emod_emod_of_dvd _ hd).symm
set_option maxRecDepth 65536 in
set_option maxHeartbeats 40000000 in
theorem met_lc {Z : State} (HT : Tb Z) {F : Hp} (h : Int32)  : Met Z y_2 prog_4_method_4_code 1 (some .int) ({ frames := 0, cells := 0, slots := 0, locals := 0 } : Room) [(.int h)] (F) (fun v M' => v = some (.int ((1 : Int32) <<< ((h - 1) &&& 31))) ∧ M' = F) := by
  refine Met.of HT pl_2 (Ls := #[.val (.int h)]) (fun m => by first | rfl | (simp [entryFrame, mkF, argsToLocals, Value.category]; done)) (fun k H => ?_)
  refine s_iconst H d2_0 (z := (1 : Int32)) (by decide) (pc' := 1) rfl ?_
  refine s_iloadn H d2_1 rfl (pc' := 2) rfl ?_
  refine s_iconst H d2_2 (z := (1 : Int32)) (by decide) (pc' := 3) rfl ?_
  refine s_isub H d2_3 (pc' := 4) rfl ?_
  refine s_ishl H d2_4 (pc' := 5) rfl ?_
  exact s_iret H d2_5 rfl (Or.inl rfl) (by decide) (by decide) (⟨rfl, rfl⟩)
set_option maxRecDepth 65536 in
set_option maxHeartbeats 40000000 in
theorem met_lo {Z : State} (HT : Tb Z) {F : Hp} (a : Addr) (vs : List Int32) (o : Nat) (h x3 x2 x1 x0 : Int32) (ho : o < 4) (hx3 : vs[o + 32 - 4]? = some x3) (hx2 : vs[o + 32 - 3]? = some x2) (hx1 : vs[o + 32 - 2]? = some x1) (hx0 : vs[o + 32 - 1]? = some x0) : Met Z y_1 prog_4_method_6_code 5 (some .int) ({ frames := 1, cells := 0, slots := 0, locals := 13 } : Room) [(.ref a), (.int o.toInt32), (.int h)] ((a, ArI Z .byte vs) :: F) (fun v M' => v = some (.int (low4 x3 x2 x1 x0 &&& (((1 : Int32) <<< ((h - 1) &&& 31)) - 1))) ∧ M' = (a, ArI Z .byte vs) :: F) := by
  refine Met.of HT pl_1 (Ls := #[.val (.ref a), .val (.int o.toInt32), .val (.int h), .unset, .unset]) (fun m => by first | rfl | (simp [entryFrame, mkF, argsToLocals, Value.category]; done)) (fun k H => ?_)
  refine s_iloadn H d1_0 rfl (pc' := 1) rfl ?_
  refine s_bipush H d1_1 (z := (32 : Int32)) (by decide) (pc' := 3) rfl ?_
  refine s_iadd H d1_3 (pc' := 4) rfl ?_
  refine s_istoren H d1_4 (L' := fun z => #[.val (.ref a), .val (.int o.toInt32), .val (.int h), .val (.int z), .unset]) (fun _ => rfl) (pc' := 5) rfl (fun last h_last => ?_)
  refine s_aloadn H d1_5 rfl rfl (pc' := 6) rfl ?_
  refine s_iloadn H d1_6 rfl (pc' := 7) rfl ?_
  refine s_iconst H d1_7 (z := (4 : Int32)) (by decide) (pc' := 8) rfl ?_
  refine s_isub H d1_8 (pc' := 9) rfl ?_
  refine s_baload H d1_9 (i := 0) rfl (x := x3) (by rw [h_last]; exact (own_idx2 (o := o) (k := 32) (c := 4) (by omega) (by omega)).2) (jn := (o + 32 - 4)) (by rw [h_last]; exact (own_idx2 (o := o) (k := 32) (c := 4) (by omega) (by omega)).1) hx3 (pc' := 10) rfl ?_
  refine s_sipush H d1_10 (z := (255 : Int32)) (by decide) (pc' := 13) rfl ?_
  refine s_iand H d1_13 (pc' := 14) rfl ?_
  refine s_bipush H d1_14 (z := (24 : Int32)) (by decide) (pc' := 16) rfl ?_
  refine s_ishl H d1_16 (pc' := 17) rfl ?_
  refine s_aloadn H d1_17 rfl rfl (pc' := 18) rfl ?_
  refine s_iloadn H d1_18 rfl (pc' := 19) rfl ?_
  refine s_iconst H d1_19 (z := (3 : Int32)) (by decide) (pc' := 20) rfl ?_
  refine s_isub H d1_20 (pc' := 21) rfl ?_
  refine s_baload H d1_21 (i := 0) rfl (x := x2) (by rw [h_last]; exact (own_idx2 (o := o) (k := 32) (c := 3) (by omega) (by omega)).2) (jn := (o + 32 - 3)) (by rw [h_last]; exact (own_idx2 (o := o) (k := 32) (c := 3) (by omega) (by omega)).1) hx2 (pc' := 22) rfl ?_
  refine s_sipush H d1_22 (z := (255 : Int32)) (by decide) (pc' := 25) rfl ?_
  refine s_iand H d1_25 (pc' := 26) rfl ?_
  refine s_bipush H d1_26 (z := (16 : Int32)) (by decide) (pc' := 28) rfl ?_
  refine s_ishl H d1_28 (pc' := 29) rfl ?_
  refine s_ior H d1_29 (pc' := 30) rfl ?_
  refine s_aloadn H d1_30 rfl rfl (pc' := 31) rfl ?_
  refine s_iloadn H d1_31 rfl (pc' := 32) rfl ?_
  refine s_iconst H d1_32 (z := (2 : Int32)) (by decide) (pc' := 33) rfl ?_
  refine s_isub H d1_33 (pc' := 34) rfl ?_
  refine s_baload H d1_34 (i := 0) rfl (x := x1) (by rw [h_last]; exact (own_idx2 (o := o) (k := 32) (c := 2) (by omega) (by omega)).2) (jn := (o + 32 - 2)) (by rw [h_last]; exact (own_idx2 (o := o) (k := 32) (c := 2) (by omega) (by omega)).1) hx1 (pc' := 35) rfl ?_
  refine s_sipush H d1_35 (z := (255 : Int32)) (by decide) (pc' := 38) rfl ?_
  refine s_iand H d1_38 (pc' := 39) rfl ?_
  refine s_bipush H d1_39 (z := (8 : Int32)) (by decide) (pc' := 41) rfl ?_
  refine s_ishl H d1_41 (pc' := 42) rfl ?_
  refine s_ior H d1_42 (pc' := 43) rfl ?_
  refine s_aloadn H d1_43 rfl rfl (pc' := 44) rfl ?_
  refine s_iloadn H d1_44 rfl (pc' := 45) rfl ?_
  refine s_iconst H d1_45 (z := (1 : Int32)) (by decide) (pc' := 46) rfl ?_
  refine s_isub H d1_46 (pc' := 47) rfl ?_
  refine s_baload H d1_47 (i := 0) rfl (x := x0) (by rw [h_last]; exact (own_idx2 (o := o) (k := 32) (c := 1) (by omega) (by omega)).2) (jn := (o + 32 - 1)) (by rw [h_last]; exact (own_idx2 (o := o) (k := 32) (c := 1) (by omega) (by omega)).1) hx0 (pc' := 48) rfl ?_
  refine s_sipush H d1_48 (z := (255 : Int32)) (by decide) (pc' := 51) rfl ?_
  refine s_iand H d1_51 (pc' := 52) rfl ?_
  refine s_ior H d1_52 (pc' := 53) rfl ?_
  refine s_istore H d1_53 (L' := fun z => #[.val (.ref a), .val (.int o.toInt32), .val (.int h), .val (.int last), .val (.int z)]) (fun _ => rfl) (pc' := 55) rfl (fun z0 hz => ?_)
  subst z0
  refine s_iload H d1_55 rfl (pc' := 57) rfl ?_
  refine s_iloadn H d1_57 rfl (pc' := 58) rfl ?_
  refine s_static H (met_lc H.tb h) d1_58 (mem (i := 6) rfl) (mem (i := 7) rfl) (mem (i := 4) rfl) (mem (i := 8) rfl) (by decide) pd_2 rfl (rest := [(.int (((((x3 &&& (255 : Int32)) <<< ((24 : Int32) &&& 31)) ||| ((x2 &&& (255 : Int32)) <<< ((16 : Int32) &&& 31))) ||| ((x1 &&& (255 : Int32)) <<< ((8 : Int32) &&& 31))) ||| (x0 &&& (255 : Int32))))]) rfl rfl (by decide) (Nat.le_of_ble_eq_true rfl) (cn' := 0) (sn' := 0) rfl rfl (by decide) (by decide) (pc' := 61) rfl (fun _ _ hq => ?_)
  obtain ⟨rfl, rfl⟩ := hq
  show Go Z k 0 0 ((a, ArI Z .byte vs) :: F) 61 #[.val (.ref a), .val (.int o.toInt32), .val (.int h), .val (.int last), .val (.int (((((x3 &&& (255 : Int32)) <<< ((24 : Int32) &&& 31)) ||| ((x2 &&& (255 : Int32)) <<< ((16 : Int32) &&& 31))) ||| ((x1 &&& (255 : Int32)) <<< ((8 : Int32) &&& 31))) ||| (x0 &&& (255 : Int32))))] [(.int ((1 : Int32) <<< ((h - 1) &&& 31))), (.int (((((x3 &&& (255 : Int32)) <<< ((24 : Int32) &&& 31)) ||| ((x2 &&& (255 : Int32)) <<< ((16 : Int32) &&& 31))) ||| ((x1 &&& (255 : Int32)) <<< ((8 : Int32) &&& 31))) ||| (x0 &&& (255 : Int32))))]
  refine s_iconst H d1_61 (z := (1 : Int32)) (by decide) (pc' := 62) rfl ?_
  refine s_isub H d1_62 (pc' := 63) rfl ?_
  refine s_iand H d1_63 (pc' := 64) rfl ?_
  exact s_iret H d1_64 rfl (Or.inl rfl) (by decide) (by decide) (⟨rfl, rfl⟩)
set_option maxRecDepth 65536 in
set_option maxHeartbeats 40000000 in
theorem s18 {Z : State} {k : Cx} {i0 i1 i3 i4 hh : Int32} {i2 : Int64} (o k1 : Nat) (H : Ok Z k room_1 (LQ) x code maxLocals ret) (ho : o < 4) (hk : k1 < 25) (hh1 : hh = Int32.ofNat (k1 + 1)) : Go Z k 0 0 ([] : Hp) 18 #[.val (.int i0), .val (.int i1), .val (.long i2), .second, .val (.int i3), .val (.int i4), .val (.int hh), .val (.int o.toInt32), .unset, .unset, .unset, .unset] [] := by
  have hf := own_fin i0 hh k1 hk hh1
  refine s_bipush H at_18 (z := (40 : Int32)) (by decide) (pc' := 20) rfl ?_
  refine s_newarr_byte H at_20 (mem (i := 1) rfl) (by decide) (cap := 40) (by decide) (by decide) (cn' := 1) (sn' := 40) rfl rfl (by decide) (by decide) (pc' := 22) rfl (fun a1 => ?_)
  show Go Z k 1 40 ((a1, ArI Z .byte (List.replicate 40 (0 : Int32))) :: []) 22 #[.val (.int i0), .val (.int i1), .val (.long i2), .second, .val (.int i3), .val (.int i4), .val (.int hh), .val (.int o.toInt32), .unset, .unset, .unset, .unset] [(.ref a1)]
  obtain ⟨vs0, hvs, l0⟩ : ∃ q : List Int32, q = List.replicate 40 (0 : Int32) ∧ q.length = 40 := ⟨_, rfl, by simp⟩
  rw [← hvs]
  clear hvs
  show Go Z k 1 40 ((a1, ArI Z .byte vs0) :: []) 22 #[.val (.int i0), .val (.int i1), .val (.long i2), .second, .val (.int i3), .val (.int i4), .val (.int hh), .val (.int o.toInt32), .unset, .unset, .unset, .unset] [(.ref a1)]
  refine s_astore H at_22 (L' := #[.val (.int i0), .val (.int i1), .val (.long i2), .second, .val (.int i3), .val (.int i4), .val (.int hh), .val (.int o.toInt32), .val (.ref a1), .unset, .unset, .unset]) rfl rfl (pc' := 24) rfl ?_
  refine s_aload H at_24 rfl rfl (pc' := 26) rfl ?_
  refine s_iconst H at_26 (z := (0 : Int32)) (by decide) (pc' := 27) rfl ?_
  refine s_iloadn H at_27 rfl (pc' := 28) rfl ?_
  refine s_i2b H at_28 (pc' := 29) rfl ?_
  refine s_bastore H at_29 (i := 0) rfl (by decide) (jn := 0) (by decide) (by rw [l0]; decide) (x := (nar .byte (i1.toInt8.toInt32))) rfl (pc' := 30) rfl ?_
  show Go Z k 1 40 ((a1, ArI Z .byte (vs0.set 0 (nar .byte (i1.toInt8.toInt32)))) :: []) 30 #[.val (.int i0), .val (.int i1), .val (.long i2), .second, .val (.int i3), .val (.int i4), .val (.int hh), .val (.int o.toInt32), .val (.ref a1), .unset, .unset, .unset] []
  obtain ⟨vs1, hvs, l1⟩ : ∃ q : List Int32, q = (vs0.set 0 (nar .byte (i1.toInt8.toInt32))) ∧ q.length = 40 := ⟨_, rfl, by rw [List.length_set]; exact l0⟩
  rw [← hvs]
  clear hvs
  show Go Z k 1 40 ((a1, ArI Z .byte vs1) :: []) 30 #[.val (.int i0), .val (.int i1), .val (.long i2), .second, .val (.int i3), .val (.int i4), .val (.int hh), .val (.int o.toInt32), .val (.ref a1), .unset, .unset, .unset] []
  refine s_aload H at_30 rfl rfl (pc' := 32) rfl ?_
  refine s_iconst H at_32 (z := (1 : Int32)) (by decide) (pc' := 33) rfl ?_
  refine s_iloadn H at_33 rfl (pc' := 34) rfl ?_
  refine s_bipush H at_34 (z := (8 : Int32)) (by decide) (pc' := 36) rfl ?_
  refine s_iushr H at_36 (pc' := 37) rfl ?_
  refine s_i2b H at_37 (pc' := 38) rfl ?_
  refine s_bastore H at_38 (i := 0) rfl (by decide) (jn := 1) (by decide) (by rw [l1]; decide) (x := (nar .byte (((i1.toUInt32 >>> ((8 : Int32) &&& 31).toUInt32).toInt32).toInt8.toInt32))) rfl (pc' := 39) rfl ?_
  show Go Z k 1 40 ((a1, ArI Z .byte (vs1.set 1 (nar .byte (((i1.toUInt32 >>> ((8 : Int32) &&& 31).toUInt32).toInt32).toInt8.toInt32)))) :: []) 39 #[.val (.int i0), .val (.int i1), .val (.long i2), .second, .val (.int i3), .val (.int i4), .val (.int hh), .val (.int o.toInt32), .val (.ref a1), .unset, .unset, .unset] []
  obtain ⟨vs2, hvs, l2⟩ : ∃ q : List Int32, q = (vs1.set 1 (nar .byte (((i1.toUInt32 >>> ((8 : Int32) &&& 31).toUInt32).toInt32).toInt8.toInt32))) ∧ q.length = 40 := ⟨_, rfl, by rw [List.length_set]; exact l1⟩
  rw [← hvs]
  clear hvs
  show Go Z k 1 40 ((a1, ArI Z .byte vs2) :: []) 39 #[.val (.int i0), .val (.int i1), .val (.long i2), .second, .val (.int i3), .val (.int i4), .val (.int hh), .val (.int o.toInt32), .val (.ref a1), .unset, .unset, .unset] []
  refine s_aload H at_39 rfl rfl (pc' := 41) rfl ?_
  refine s_iconst H at_41 (z := (2 : Int32)) (by decide) (pc' := 42) rfl ?_
  refine s_iloadn H at_42 rfl (pc' := 43) rfl ?_
  refine s_bipush H at_43 (z := (16 : Int32)) (by decide) (pc' := 45) rfl ?_
  refine s_iushr H at_45 (pc' := 46) rfl ?_
  refine s_i2b H at_46 (pc' := 47) rfl ?_
  refine s_bastore H at_47 (i := 0) rfl (by decide) (jn := 2) (by decide) (by rw [l2]; decide) (x := (nar .byte (((i1.toUInt32 >>> ((16 : Int32) &&& 31).toUInt32).toInt32).toInt8.toInt32))) rfl (pc' := 48) rfl ?_
  show Go Z k 1 40 ((a1, ArI Z .byte (vs2.set 2 (nar .byte (((i1.toUInt32 >>> ((16 : Int32) &&& 31).toUInt32).toInt32).toInt8.toInt32)))) :: []) 48 #[.val (.int i0), .val (.int i1), .val (.long i2), .second, .val (.int i3), .val (.int i4), .val (.int hh), .val (.int o.toInt32), .val (.ref a1), .unset, .unset, .unset] []
  obtain ⟨vs3, hvs, l3⟩ : ∃ q : List Int32, q = (vs2.set 2 (nar .byte (((i1.toUInt32 >>> ((16 : Int32) &&& 31).toUInt32).toInt32).toInt8.toInt32))) ∧ q.length = 40 := ⟨_, rfl, by rw [List.length_set]; exact l2⟩
  rw [← hvs]
  clear hvs
  show Go Z k 1 40 ((a1, ArI Z .byte vs3) :: []) 48 #[.val (.int i0), .val (.int i1), .val (.long i2), .second, .val (.int i3), .val (.int i4), .val (.int hh), .val (.int o.toInt32), .val (.ref a1), .unset, .unset, .unset] []
  refine s_aload H at_48 rfl rfl (pc' := 50) rfl ?_
  refine s_iconst H at_50 (z := (3 : Int32)) (by decide) (pc' := 51) rfl ?_
  refine s_iloadn H at_51 rfl (pc' := 52) rfl ?_
  refine s_bipush H at_52 (z := (24 : Int32)) (by decide) (pc' := 54) rfl ?_
  refine s_iushr H at_54 (pc' := 55) rfl ?_
  refine s_i2b H at_55 (pc' := 56) rfl ?_
  refine s_bastore H at_56 (i := 0) rfl (by decide) (jn := 3) (by decide) (by rw [l3]; decide) (x := (nar .byte (((i1.toUInt32 >>> ((24 : Int32) &&& 31).toUInt32).toInt32).toInt8.toInt32))) rfl (pc' := 57) rfl ?_
  show Go Z k 1 40 ((a1, ArI Z .byte (vs3.set 3 (nar .byte (((i1.toUInt32 >>> ((24 : Int32) &&& 31).toUInt32).toInt32).toInt8.toInt32)))) :: []) 57 #[.val (.int i0), .val (.int i1), .val (.long i2), .second, .val (.int i3), .val (.int i4), .val (.int hh), .val (.int o.toInt32), .val (.ref a1), .unset, .unset, .unset] []
  obtain ⟨vs4, hvs, l4⟩ : ∃ q : List Int32, q = (vs3.set 3 (nar .byte (((i1.toUInt32 >>> ((24 : Int32) &&& 31).toUInt32).toInt32).toInt8.toInt32))) ∧ q.length = 40 := ⟨_, rfl, by rw [List.length_set]; exact l3⟩
  rw [← hvs]
  clear hvs
  show Go Z k 1 40 ((a1, ArI Z .byte vs4) :: []) 57 #[.val (.int i0), .val (.int i1), .val (.long i2), .second, .val (.int i3), .val (.int i4), .val (.int hh), .val (.int o.toInt32), .val (.ref a1), .unset, .unset, .unset] []
  refine s_aload H at_57 rfl rfl (pc' := 59) rfl ?_
  refine s_bipush H at_59 (z := (24 : Int32)) (by decide) (pc' := 61) rfl ?_
  refine s_lloadn H at_61 rfl (pc' := 62) rfl ?_
  refine s_l2i H at_62 (pc' := 63) rfl ?_
  refine s_i2b H at_63 (pc' := 64) rfl ?_
  refine s_bastore H at_64 (i := 0) rfl (by decide) (jn := 24) (by decide) (by rw [l4]; decide) (x := (nar .byte ((i2.toInt32).toInt8.toInt32))) rfl (pc' := 65) rfl ?_
  show Go Z k 1 40 ((a1, ArI Z .byte (vs4.set 24 (nar .byte ((i2.toInt32).toInt8.toInt32)))) :: []) 65 #[.val (.int i0), .val (.int i1), .val (.long i2), .second, .val (.int i3), .val (.int i4), .val (.int hh), .val (.int o.toInt32), .val (.ref a1), .unset, .unset, .unset] []
  obtain ⟨vs5, hvs, l5⟩ : ∃ q : List Int32, q = (vs4.set 24 (nar .byte ((i2.toInt32).toInt8.toInt32))) ∧ q.length = 40 := ⟨_, rfl, by rw [List.length_set]; exact l4⟩
  rw [← hvs]
  clear hvs
  show Go Z k 1 40 ((a1, ArI Z .byte vs5) :: []) 65 #[.val (.int i0), .val (.int i1), .val (.long i2), .second, .val (.int i3), .val (.int i4), .val (.int hh), .val (.int o.toInt32), .val (.ref a1), .unset, .unset, .unset] []
  refine s_aload H at_65 rfl rfl (pc' := 67) rfl ?_
  refine s_bipush H at_67 (z := (25 : Int32)) (by decide) (pc' := 69) rfl ?_
  refine s_lloadn H at_69 rfl (pc' := 70) rfl ?_
  refine s_bipush H at_70 (z := (8 : Int32)) (by decide) (pc' := 72) rfl ?_
  refine s_lushr H at_72 (pc' := 73) rfl ?_
  refine s_l2i H at_73 (pc' := 74) rfl ?_
  refine s_i2b H at_74 (pc' := 75) rfl ?_
  refine s_bastore H at_75 (i := 0) rfl (by decide) (jn := 25) (by decide) (by rw [l5]; decide) (x := (nar .byte ((((i2.toUInt64 >>> ((8 : Int32) &&& 0x3f).toInt64.toUInt64).toInt64).toInt32).toInt8.toInt32))) rfl (pc' := 76) rfl ?_
  show Go Z k 1 40 ((a1, ArI Z .byte (vs5.set 25 (nar .byte ((((i2.toUInt64 >>> ((8 : Int32) &&& 0x3f).toInt64.toUInt64).toInt64).toInt32).toInt8.toInt32)))) :: []) 76 #[.val (.int i0), .val (.int i1), .val (.long i2), .second, .val (.int i3), .val (.int i4), .val (.int hh), .val (.int o.toInt32), .val (.ref a1), .unset, .unset, .unset] []
  obtain ⟨vs6, hvs, l6⟩ : ∃ q : List Int32, q = (vs5.set 25 (nar .byte ((((i2.toUInt64 >>> ((8 : Int32) &&& 0x3f).toInt64.toUInt64).toInt64).toInt32).toInt8.toInt32))) ∧ q.length = 40 := ⟨_, rfl, by rw [List.length_set]; exact l5⟩
  rw [← hvs]
  clear hvs
  show Go Z k 1 40 ((a1, ArI Z .byte vs6) :: []) 76 #[.val (.int i0), .val (.int i1), .val (.long i2), .second, .val (.int i3), .val (.int i4), .val (.int hh), .val (.int o.toInt32), .val (.ref a1), .unset, .unset, .unset] []
  refine s_aload H at_76 rfl rfl (pc' := 78) rfl ?_
  refine s_bipush H at_78 (z := (26 : Int32)) (by decide) (pc' := 80) rfl ?_
  refine s_lloadn H at_80 rfl (pc' := 81) rfl ?_
  refine s_bipush H at_81 (z := (16 : Int32)) (by decide) (pc' := 83) rfl ?_
  refine s_lushr H at_83 (pc' := 84) rfl ?_
  refine s_l2i H at_84 (pc' := 85) rfl ?_
  refine s_i2b H at_85 (pc' := 86) rfl ?_
  refine s_bastore H at_86 (i := 0) rfl (by decide) (jn := 26) (by decide) (by rw [l6]; decide) (x := (nar .byte ((((i2.toUInt64 >>> ((16 : Int32) &&& 0x3f).toInt64.toUInt64).toInt64).toInt32).toInt8.toInt32))) rfl (pc' := 87) rfl ?_
  show Go Z k 1 40 ((a1, ArI Z .byte (vs6.set 26 (nar .byte ((((i2.toUInt64 >>> ((16 : Int32) &&& 0x3f).toInt64.toUInt64).toInt64).toInt32).toInt8.toInt32)))) :: []) 87 #[.val (.int i0), .val (.int i1), .val (.long i2), .second, .val (.int i3), .val (.int i4), .val (.int hh), .val (.int o.toInt32), .val (.ref a1), .unset, .unset, .unset] []
  obtain ⟨vs7, hvs, l7⟩ : ∃ q : List Int32, q = (vs6.set 26 (nar .byte ((((i2.toUInt64 >>> ((16 : Int32) &&& 0x3f).toInt64.toUInt64).toInt64).toInt32).toInt8.toInt32))) ∧ q.length = 40 := ⟨_, rfl, by rw [List.length_set]; exact l6⟩
  rw [← hvs]
  clear hvs
  show Go Z k 1 40 ((a1, ArI Z .byte vs7) :: []) 87 #[.val (.int i0), .val (.int i1), .val (.long i2), .second, .val (.int i3), .val (.int i4), .val (.int hh), .val (.int o.toInt32), .val (.ref a1), .unset, .unset, .unset] []
  refine s_aload H at_87 rfl rfl (pc' := 89) rfl ?_
  refine s_bipush H at_89 (z := (27 : Int32)) (by decide) (pc' := 91) rfl ?_
  refine s_lloadn H at_91 rfl (pc' := 92) rfl ?_
  refine s_bipush H at_92 (z := (24 : Int32)) (by decide) (pc' := 94) rfl ?_
  refine s_lushr H at_94 (pc' := 95) rfl ?_
  refine s_l2i H at_95 (pc' := 96) rfl ?_
  refine s_i2b H at_96 (pc' := 97) rfl ?_
  refine s_bastore H at_97 (i := 0) rfl (by decide) (jn := 27) (by decide) (by rw [l7]; decide) (x := (nar .byte ((((i2.toUInt64 >>> ((24 : Int32) &&& 0x3f).toInt64.toUInt64).toInt64).toInt32).toInt8.toInt32))) rfl (pc' := 98) rfl ?_
  show Go Z k 1 40 ((a1, ArI Z .byte (vs7.set 27 (nar .byte ((((i2.toUInt64 >>> ((24 : Int32) &&& 0x3f).toInt64.toUInt64).toInt64).toInt32).toInt8.toInt32)))) :: []) 98 #[.val (.int i0), .val (.int i1), .val (.long i2), .second, .val (.int i3), .val (.int i4), .val (.int hh), .val (.int o.toInt32), .val (.ref a1), .unset, .unset, .unset] []
  obtain ⟨vs8, hvs, l8⟩ : ∃ q : List Int32, q = (vs7.set 27 (nar .byte ((((i2.toUInt64 >>> ((24 : Int32) &&& 0x3f).toInt64.toUInt64).toInt64).toInt32).toInt8.toInt32))) ∧ q.length = 40 := ⟨_, rfl, by rw [List.length_set]; exact l7⟩
  rw [← hvs]
  clear hvs
  show Go Z k 1 40 ((a1, ArI Z .byte vs8) :: []) 98 #[.val (.int i0), .val (.int i1), .val (.long i2), .second, .val (.int i3), .val (.int i4), .val (.int hh), .val (.int o.toInt32), .val (.ref a1), .unset, .unset, .unset] []
  refine s_aload H at_98 rfl rfl (pc' := 100) rfl ?_
  refine s_bipush H at_100 (z := (28 : Int32)) (by decide) (pc' := 102) rfl ?_
  refine s_lloadn H at_102 rfl (pc' := 103) rfl ?_
  refine s_bipush H at_103 (z := (32 : Int32)) (by decide) (pc' := 105) rfl ?_
  refine s_lushr H at_105 (pc' := 106) rfl ?_
  refine s_l2i H at_106 (pc' := 107) rfl ?_
  refine s_i2b H at_107 (pc' := 108) rfl ?_
  refine s_bastore H at_108 (i := 0) rfl (by decide) (jn := 28) (by decide) (by rw [l8]; decide) (x := (nar .byte ((((i2.toUInt64 >>> ((32 : Int32) &&& 0x3f).toInt64.toUInt64).toInt64).toInt32).toInt8.toInt32))) rfl (pc' := 109) rfl ?_
  show Go Z k 1 40 ((a1, ArI Z .byte (vs8.set 28 (nar .byte ((((i2.toUInt64 >>> ((32 : Int32) &&& 0x3f).toInt64.toUInt64).toInt64).toInt32).toInt8.toInt32)))) :: []) 109 #[.val (.int i0), .val (.int i1), .val (.long i2), .second, .val (.int i3), .val (.int i4), .val (.int hh), .val (.int o.toInt32), .val (.ref a1), .unset, .unset, .unset] []
  obtain ⟨vs9, hvs, l9⟩ : ∃ q : List Int32, q = (vs8.set 28 (nar .byte ((((i2.toUInt64 >>> ((32 : Int32) &&& 0x3f).toInt64.toUInt64).toInt64).toInt32).toInt8.toInt32))) ∧ q.length = 40 := ⟨_, rfl, by rw [List.length_set]; exact l8⟩
  rw [← hvs]
  clear hvs
  show Go Z k 1 40 ((a1, ArI Z .byte vs9) :: []) 109 #[.val (.int i0), .val (.int i1), .val (.long i2), .second, .val (.int i3), .val (.int i4), .val (.int hh), .val (.int o.toInt32), .val (.ref a1), .unset, .unset, .unset] []
  refine s_aload H at_109 rfl rfl (pc' := 111) rfl ?_
  refine s_bipush H at_111 (z := (29 : Int32)) (by decide) (pc' := 113) rfl ?_
  refine s_lloadn H at_113 rfl (pc' := 114) rfl ?_
  refine s_bipush H at_114 (z := (40 : Int32)) (by decide) (pc' := 116) rfl ?_
  refine s_lushr H at_116 (pc' := 117) rfl ?_
  refine s_l2i H at_117 (pc' := 118) rfl ?_
  refine s_i2b H at_118 (pc' := 119) rfl ?_
  refine s_bastore H at_119 (i := 0) rfl (by decide) (jn := 29) (by decide) (by rw [l9]; decide) (x := (nar .byte ((((i2.toUInt64 >>> ((40 : Int32) &&& 0x3f).toInt64.toUInt64).toInt64).toInt32).toInt8.toInt32))) rfl (pc' := 120) rfl ?_
  show Go Z k 1 40 ((a1, ArI Z .byte (vs9.set 29 (nar .byte ((((i2.toUInt64 >>> ((40 : Int32) &&& 0x3f).toInt64.toUInt64).toInt64).toInt32).toInt8.toInt32)))) :: []) 120 #[.val (.int i0), .val (.int i1), .val (.long i2), .second, .val (.int i3), .val (.int i4), .val (.int hh), .val (.int o.toInt32), .val (.ref a1), .unset, .unset, .unset] []
  obtain ⟨vs10, hvs, l10⟩ : ∃ q : List Int32, q = (vs9.set 29 (nar .byte ((((i2.toUInt64 >>> ((40 : Int32) &&& 0x3f).toInt64.toUInt64).toInt64).toInt32).toInt8.toInt32))) ∧ q.length = 40 := ⟨_, rfl, by rw [List.length_set]; exact l9⟩
  rw [← hvs]
  clear hvs
  show Go Z k 1 40 ((a1, ArI Z .byte vs10) :: []) 120 #[.val (.int i0), .val (.int i1), .val (.long i2), .second, .val (.int i3), .val (.int i4), .val (.int hh), .val (.int o.toInt32), .val (.ref a1), .unset, .unset, .unset] []
  refine s_aload H at_120 rfl rfl (pc' := 122) rfl ?_
  refine s_bipush H at_122 (z := (30 : Int32)) (by decide) (pc' := 124) rfl ?_
  refine s_lloadn H at_124 rfl (pc' := 125) rfl ?_
  refine s_bipush H at_125 (z := (48 : Int32)) (by decide) (pc' := 127) rfl ?_
  refine s_lushr H at_127 (pc' := 128) rfl ?_
  refine s_l2i H at_128 (pc' := 129) rfl ?_
  refine s_i2b H at_129 (pc' := 130) rfl ?_
  refine s_bastore H at_130 (i := 0) rfl (by decide) (jn := 30) (by decide) (by rw [l10]; decide) (x := (nar .byte ((((i2.toUInt64 >>> ((48 : Int32) &&& 0x3f).toInt64.toUInt64).toInt64).toInt32).toInt8.toInt32))) rfl (pc' := 131) rfl ?_
  show Go Z k 1 40 ((a1, ArI Z .byte (vs10.set 30 (nar .byte ((((i2.toUInt64 >>> ((48 : Int32) &&& 0x3f).toInt64.toUInt64).toInt64).toInt32).toInt8.toInt32)))) :: []) 131 #[.val (.int i0), .val (.int i1), .val (.long i2), .second, .val (.int i3), .val (.int i4), .val (.int hh), .val (.int o.toInt32), .val (.ref a1), .unset, .unset, .unset] []
  obtain ⟨vs11, hvs, l11⟩ : ∃ q : List Int32, q = (vs10.set 30 (nar .byte ((((i2.toUInt64 >>> ((48 : Int32) &&& 0x3f).toInt64.toUInt64).toInt64).toInt32).toInt8.toInt32))) ∧ q.length = 40 := ⟨_, rfl, by rw [List.length_set]; exact l10⟩
  rw [← hvs]
  clear hvs
  show Go Z k 1 40 ((a1, ArI Z .byte vs11) :: []) 131 #[.val (.int i0), .val (.int i1), .val (.long i2), .second, .val (.int i3), .val (.int i4), .val (.int hh), .val (.int o.toInt32), .val (.ref a1), .unset, .unset, .unset] []
  refine s_aload H at_131 rfl rfl (pc' := 133) rfl ?_
  refine s_bipush H at_133 (z := (31 : Int32)) (by decide) (pc' := 135) rfl ?_
  refine s_lloadn H at_135 rfl (pc' := 136) rfl ?_
  refine s_bipush H at_136 (z := (56 : Int32)) (by decide) (pc' := 138) rfl ?_
  refine s_lushr H at_138 (pc' := 139) rfl ?_
  refine s_l2i H at_139 (pc' := 140) rfl ?_
  refine s_i2b H at_140 (pc' := 141) rfl ?_
  refine s_bastore H at_141 (i := 0) rfl (by decide) (jn := 31) (by decide) (by rw [l11]; decide) (x := (nar .byte ((((i2.toUInt64 >>> ((56 : Int32) &&& 0x3f).toInt64.toUInt64).toInt64).toInt32).toInt8.toInt32))) rfl (pc' := 142) rfl ?_
  show Go Z k 1 40 ((a1, ArI Z .byte (vs11.set 31 (nar .byte ((((i2.toUInt64 >>> ((56 : Int32) &&& 0x3f).toInt64.toUInt64).toInt64).toInt32).toInt8.toInt32)))) :: []) 142 #[.val (.int i0), .val (.int i1), .val (.long i2), .second, .val (.int i3), .val (.int i4), .val (.int hh), .val (.int o.toInt32), .val (.ref a1), .unset, .unset, .unset] []
  obtain ⟨vs12, hvs, l12⟩ : ∃ q : List Int32, q = (vs11.set 31 (nar .byte ((((i2.toUInt64 >>> ((56 : Int32) &&& 0x3f).toInt64.toUInt64).toInt64).toInt32).toInt8.toInt32))) ∧ q.length = 40 := ⟨_, rfl, by rw [List.length_set]; exact l11⟩
  rw [← hvs]
  clear hvs
  show Go Z k 1 40 ((a1, ArI Z .byte vs12) :: []) 142 #[.val (.int i0), .val (.int i1), .val (.long i2), .second, .val (.int i3), .val (.int i4), .val (.int hh), .val (.int o.toInt32), .val (.ref a1), .unset, .unset, .unset] []
  refine s_aload H at_142 rfl rfl (pc' := 144) rfl ?_
  refine s_bipush H at_144 (z := (32 : Int32)) (by decide) (pc' := 146) rfl ?_
  refine s_iloadn H at_146 rfl (pc' := 147) rfl ?_
  refine s_iconst H at_147 (z := (4 : Int32)) (by decide) (pc' := 148) rfl ?_
  refine s_iushr H at_148 (pc' := 149) rfl ?_
  refine s_i2b H at_149 (pc' := 150) rfl ?_
  refine s_bastore H at_150 (i := 0) rfl (by decide) (jn := 32) (by decide) (by rw [l12]; decide) (x := (nar .byte (((i1.toUInt32 >>> ((4 : Int32) &&& 31).toUInt32).toInt32).toInt8.toInt32))) rfl (pc' := 151) rfl ?_
  show Go Z k 1 40 ((a1, ArI Z .byte (vs12.set 32 (nar .byte (((i1.toUInt32 >>> ((4 : Int32) &&& 31).toUInt32).toInt32).toInt8.toInt32)))) :: []) 151 #[.val (.int i0), .val (.int i1), .val (.long i2), .second, .val (.int i3), .val (.int i4), .val (.int hh), .val (.int o.toInt32), .val (.ref a1), .unset, .unset, .unset] []
  obtain ⟨vs13, hvs, l13⟩ : ∃ q : List Int32, q = (vs12.set 32 (nar .byte (((i1.toUInt32 >>> ((4 : Int32) &&& 31).toUInt32).toInt32).toInt8.toInt32))) ∧ q.length = 40 := ⟨_, rfl, by rw [List.length_set]; exact l12⟩
  rw [← hvs]
  clear hvs
  show Go Z k 1 40 ((a1, ArI Z .byte vs13) :: []) 151 #[.val (.int i0), .val (.int i1), .val (.long i2), .second, .val (.int i3), .val (.int i4), .val (.int hh), .val (.int o.toInt32), .val (.ref a1), .unset, .unset, .unset] []
  refine s_aload H at_151 rfl rfl (pc' := 153) rfl ?_
  refine s_bipush H at_153 (z := (33 : Int32)) (by decide) (pc' := 155) rfl ?_
  refine s_iloadn H at_155 rfl (pc' := 156) rfl ?_
  refine s_bipush H at_156 (z := (12 : Int32)) (by decide) (pc' := 158) rfl ?_
  refine s_iushr H at_158 (pc' := 159) rfl ?_
  refine s_i2b H at_159 (pc' := 160) rfl ?_
  refine s_bastore H at_160 (i := 0) rfl (by decide) (jn := 33) (by decide) (by rw [l13]; decide) (x := (nar .byte (((i1.toUInt32 >>> ((12 : Int32) &&& 31).toUInt32).toInt32).toInt8.toInt32))) rfl (pc' := 161) rfl ?_
  show Go Z k 1 40 ((a1, ArI Z .byte (vs13.set 33 (nar .byte (((i1.toUInt32 >>> ((12 : Int32) &&& 31).toUInt32).toInt32).toInt8.toInt32)))) :: []) 161 #[.val (.int i0), .val (.int i1), .val (.long i2), .second, .val (.int i3), .val (.int i4), .val (.int hh), .val (.int o.toInt32), .val (.ref a1), .unset, .unset, .unset] []
  obtain ⟨vs14, hvs, l14⟩ : ∃ q : List Int32, q = (vs13.set 33 (nar .byte (((i1.toUInt32 >>> ((12 : Int32) &&& 31).toUInt32).toInt32).toInt8.toInt32))) ∧ q.length = 40 := ⟨_, rfl, by rw [List.length_set]; exact l13⟩
  rw [← hvs]
  clear hvs
  show Go Z k 1 40 ((a1, ArI Z .byte vs14) :: []) 161 #[.val (.int i0), .val (.int i1), .val (.long i2), .second, .val (.int i3), .val (.int i4), .val (.int hh), .val (.int o.toInt32), .val (.ref a1), .unset, .unset, .unset] []
  refine s_aload H at_161 rfl rfl (pc' := 163) rfl ?_
  refine s_bipush H at_163 (z := (34 : Int32)) (by decide) (pc' := 165) rfl ?_
  refine s_iloadn H at_165 rfl (pc' := 166) rfl ?_
  refine s_bipush H at_166 (z := (20 : Int32)) (by decide) (pc' := 168) rfl ?_
  refine s_iushr H at_168 (pc' := 169) rfl ?_
  refine s_i2b H at_169 (pc' := 170) rfl ?_
  refine s_bastore H at_170 (i := 0) rfl (by decide) (jn := 34) (by decide) (by rw [l14]; decide) (x := (nar .byte (((i1.toUInt32 >>> ((20 : Int32) &&& 31).toUInt32).toInt32).toInt8.toInt32))) rfl (pc' := 171) rfl ?_
  show Go Z k 1 40 ((a1, ArI Z .byte (vs14.set 34 (nar .byte (((i1.toUInt32 >>> ((20 : Int32) &&& 31).toUInt32).toInt32).toInt8.toInt32)))) :: []) 171 #[.val (.int i0), .val (.int i1), .val (.long i2), .second, .val (.int i3), .val (.int i4), .val (.int hh), .val (.int o.toInt32), .val (.ref a1), .unset, .unset, .unset] []
  obtain ⟨vs15, hvs, l15⟩ : ∃ q : List Int32, q = (vs14.set 34 (nar .byte (((i1.toUInt32 >>> ((20 : Int32) &&& 31).toUInt32).toInt32).toInt8.toInt32))) ∧ q.length = 40 := ⟨_, rfl, by rw [List.length_set]; exact l14⟩
  rw [← hvs]
  clear hvs
  show Go Z k 1 40 ((a1, ArI Z .byte vs15) :: []) 171 #[.val (.int i0), .val (.int i1), .val (.long i2), .second, .val (.int i3), .val (.int i4), .val (.int hh), .val (.int o.toInt32), .val (.ref a1), .unset, .unset, .unset] []
  refine s_aload H at_171 rfl rfl (pc' := 173) rfl ?_
  refine s_bipush H at_173 (z := (35 : Int32)) (by decide) (pc' := 175) rfl ?_
  refine s_iloadn H at_175 rfl (pc' := 176) rfl ?_
  refine s_iconst H at_176 (z := (-1 : Int32)) (by decide) (pc' := 177) rfl ?_
  refine s_ixor H at_177 (pc' := 178) rfl ?_
  refine s_i2b H at_178 (pc' := 179) rfl ?_
  refine s_bastore H at_179 (i := 0) rfl (by decide) (jn := 35) (by decide) (by rw [l15]; decide) (x := (nar .byte ((i1 ^^^ (-1 : Int32)).toInt8.toInt32))) rfl (pc' := 180) rfl ?_
  show Go Z k 1 40 ((a1, ArI Z .byte (vs15.set 35 (nar .byte ((i1 ^^^ (-1 : Int32)).toInt8.toInt32)))) :: []) 180 #[.val (.int i0), .val (.int i1), .val (.long i2), .second, .val (.int i3), .val (.int i4), .val (.int hh), .val (.int o.toInt32), .val (.ref a1), .unset, .unset, .unset] []
  obtain ⟨vs16, hvs, l16⟩ : ∃ q : List Int32, q = (vs15.set 35 (nar .byte ((i1 ^^^ (-1 : Int32)).toInt8.toInt32))) ∧ q.length = 40 := ⟨_, rfl, by rw [List.length_set]; exact l15⟩
  rw [← hvs]
  clear hvs
  show Go Z k 1 40 ((a1, ArI Z .byte vs16) :: []) 180 #[.val (.int i0), .val (.int i1), .val (.long i2), .second, .val (.int i3), .val (.int i4), .val (.int hh), .val (.int o.toInt32), .val (.ref a1), .unset, .unset, .unset] []
  refine s_aload H at_180 rfl rfl (pc' := 182) rfl ?_
  refine s_bipush H at_182 (z := (36 : Int32)) (by decide) (pc' := 184) rfl ?_
  refine s_iloadn H at_184 rfl (pc' := 185) rfl ?_
  refine s_iconst H at_185 (z := (-1 : Int32)) (by decide) (pc' := 186) rfl ?_
  refine s_ixor H at_186 (pc' := 187) rfl ?_
  refine s_bipush H at_187 (z := (8 : Int32)) (by decide) (pc' := 189) rfl ?_
  refine s_iushr H at_189 (pc' := 190) rfl ?_
  refine s_i2b H at_190 (pc' := 191) rfl ?_
  refine s_bastore H at_191 (i := 0) rfl (by decide) (jn := 36) (by decide) (by rw [l16]; decide) (x := (nar .byte ((((i1 ^^^ (-1 : Int32)).toUInt32 >>> ((8 : Int32) &&& 31).toUInt32).toInt32).toInt8.toInt32))) rfl (pc' := 192) rfl ?_
  show Go Z k 1 40 ((a1, ArI Z .byte (vs16.set 36 (nar .byte ((((i1 ^^^ (-1 : Int32)).toUInt32 >>> ((8 : Int32) &&& 31).toUInt32).toInt32).toInt8.toInt32)))) :: []) 192 #[.val (.int i0), .val (.int i1), .val (.long i2), .second, .val (.int i3), .val (.int i4), .val (.int hh), .val (.int o.toInt32), .val (.ref a1), .unset, .unset, .unset] []
  obtain ⟨vs17, hvs, l17⟩ : ∃ q : List Int32, q = (vs16.set 36 (nar .byte ((((i1 ^^^ (-1 : Int32)).toUInt32 >>> ((8 : Int32) &&& 31).toUInt32).toInt32).toInt8.toInt32))) ∧ q.length = 40 := ⟨_, rfl, by rw [List.length_set]; exact l16⟩
  rw [← hvs]
  clear hvs
  show Go Z k 1 40 ((a1, ArI Z .byte vs17) :: []) 192 #[.val (.int i0), .val (.int i1), .val (.long i2), .second, .val (.int i3), .val (.int i4), .val (.int hh), .val (.int o.toInt32), .val (.ref a1), .unset, .unset, .unset] []
  refine s_aload H at_192 rfl rfl (pc' := 194) rfl ?_
  refine s_bipush H at_194 (z := (37 : Int32)) (by decide) (pc' := 196) rfl ?_
  refine s_iloadn H at_196 rfl (pc' := 197) rfl ?_
  refine s_iconst H at_197 (z := (-1 : Int32)) (by decide) (pc' := 198) rfl ?_
  refine s_ixor H at_198 (pc' := 199) rfl ?_
  refine s_bipush H at_199 (z := (16 : Int32)) (by decide) (pc' := 201) rfl ?_
  refine s_iushr H at_201 (pc' := 202) rfl ?_
  refine s_i2b H at_202 (pc' := 203) rfl ?_
  refine s_bastore H at_203 (i := 0) rfl (by decide) (jn := 37) (by decide) (by rw [l17]; decide) (x := (nar .byte ((((i1 ^^^ (-1 : Int32)).toUInt32 >>> ((16 : Int32) &&& 31).toUInt32).toInt32).toInt8.toInt32))) rfl (pc' := 204) rfl ?_
  show Go Z k 1 40 ((a1, ArI Z .byte (vs17.set 37 (nar .byte ((((i1 ^^^ (-1 : Int32)).toUInt32 >>> ((16 : Int32) &&& 31).toUInt32).toInt32).toInt8.toInt32)))) :: []) 204 #[.val (.int i0), .val (.int i1), .val (.long i2), .second, .val (.int i3), .val (.int i4), .val (.int hh), .val (.int o.toInt32), .val (.ref a1), .unset, .unset, .unset] []
  obtain ⟨vs18, hvs, l18⟩ : ∃ q : List Int32, q = (vs17.set 37 (nar .byte ((((i1 ^^^ (-1 : Int32)).toUInt32 >>> ((16 : Int32) &&& 31).toUInt32).toInt32).toInt8.toInt32))) ∧ q.length = 40 := ⟨_, rfl, by rw [List.length_set]; exact l17⟩
  rw [← hvs]
  clear hvs
  show Go Z k 1 40 ((a1, ArI Z .byte vs18) :: []) 204 #[.val (.int i0), .val (.int i1), .val (.long i2), .second, .val (.int i3), .val (.int i4), .val (.int hh), .val (.int o.toInt32), .val (.ref a1), .unset, .unset, .unset] []
  refine s_aload H at_204 rfl rfl (pc' := 206) rfl ?_
  refine s_bipush H at_206 (z := (38 : Int32)) (by decide) (pc' := 208) rfl ?_
  refine s_iloadn H at_208 rfl (pc' := 209) rfl ?_
  refine s_iconst H at_209 (z := (-1 : Int32)) (by decide) (pc' := 210) rfl ?_
  refine s_ixor H at_210 (pc' := 211) rfl ?_
  refine s_bipush H at_211 (z := (24 : Int32)) (by decide) (pc' := 213) rfl ?_
  refine s_iushr H at_213 (pc' := 214) rfl ?_
  refine s_i2b H at_214 (pc' := 215) rfl ?_
  refine s_bastore H at_215 (i := 0) rfl (by decide) (jn := 38) (by decide) (by rw [l18]; decide) (x := (nar .byte ((((i1 ^^^ (-1 : Int32)).toUInt32 >>> ((24 : Int32) &&& 31).toUInt32).toInt32).toInt8.toInt32))) rfl (pc' := 216) rfl ?_
  show Go Z k 1 40 ((a1, ArI Z .byte (vs18.set 38 (nar .byte ((((i1 ^^^ (-1 : Int32)).toUInt32 >>> ((24 : Int32) &&& 31).toUInt32).toInt32).toInt8.toInt32)))) :: []) 216 #[.val (.int i0), .val (.int i1), .val (.long i2), .second, .val (.int i3), .val (.int i4), .val (.int hh), .val (.int o.toInt32), .val (.ref a1), .unset, .unset, .unset] []
  obtain ⟨vs19, hvs, l19⟩ : ∃ q : List Int32, q = (vs18.set 38 (nar .byte ((((i1 ^^^ (-1 : Int32)).toUInt32 >>> ((24 : Int32) &&& 31).toUInt32).toInt32).toInt8.toInt32))) ∧ q.length = 40 := ⟨_, rfl, by rw [List.length_set]; exact l18⟩
  rw [← hvs]
  clear hvs
  show Go Z k 1 40 ((a1, ArI Z .byte vs19) :: []) 216 #[.val (.int i0), .val (.int i1), .val (.long i2), .second, .val (.int i3), .val (.int i4), .val (.int hh), .val (.int o.toInt32), .val (.ref a1), .unset, .unset, .unset] []
  refine s_aload H at_216 rfl rfl (pc' := 218) rfl ?_
  refine s_bipush H at_218 (z := (39 : Int32)) (by decide) (pc' := 220) rfl ?_
  refine s_iloadn H at_220 rfl (pc' := 221) rfl ?_
  refine s_bipush H at_221 (z := (28 : Int32)) (by decide) (pc' := 223) rfl ?_
  refine s_iushr H at_223 (pc' := 224) rfl ?_
  refine s_i2b H at_224 (pc' := 225) rfl ?_
  refine s_bastore H at_225 (i := 0) rfl (by decide) (jn := 39) (by decide) (by rw [l19]; decide) (x := (nar .byte (((i1.toUInt32 >>> ((28 : Int32) &&& 31).toUInt32).toInt32).toInt8.toInt32))) rfl (pc' := 226) rfl ?_
  show Go Z k 1 40 ((a1, ArI Z .byte (vs19.set 39 (nar .byte (((i1.toUInt32 >>> ((28 : Int32) &&& 31).toUInt32).toInt32).toInt8.toInt32)))) :: []) 226 #[.val (.int i0), .val (.int i1), .val (.long i2), .second, .val (.int i3), .val (.int i4), .val (.int hh), .val (.int o.toInt32), .val (.ref a1), .unset, .unset, .unset] []
  obtain ⟨vs20, hvs, l20⟩ : ∃ q : List Int32, q = (vs19.set 39 (nar .byte (((i1.toUInt32 >>> ((28 : Int32) &&& 31).toUInt32).toInt32).toInt8.toInt32))) ∧ q.length = 40 := ⟨_, rfl, by rw [List.length_set]; exact l19⟩
  rw [← hvs]
  clear hvs
  show Go Z k 1 40 ((a1, ArI Z .byte vs20) :: []) 226 #[.val (.int i0), .val (.int i1), .val (.long i2), .second, .val (.int i3), .val (.int i4), .val (.int hh), .val (.int o.toInt32), .val (.ref a1), .unset, .unset, .unset] []
  refine s_aload H at_226 rfl rfl (pc' := 228) rfl ?_
  refine s_iload H at_228 rfl (pc' := 230) rfl ?_
  refine s_bipush H at_230 (z := (28 : Int32)) (by decide) (pc' := 232) rfl ?_
  refine s_iadd H at_232 (pc' := 233) rfl ?_
  refine s_iloadn H at_233 rfl (pc' := 234) rfl ?_
  refine s_bipush H at_234 (z := (24 : Int32)) (by decide) (pc' := 236) rfl ?_
  refine s_iushr H at_236 (pc' := 237) rfl ?_
  refine s_i2b H at_237 (pc' := 238) rfl ?_
  have lens := l20
  refine s_bastore H at_238 (i := 0) rfl (own_idx (o := o) (k := 28) (by omega)).2 (jn := (o + 28)) (own_idx (o := o) (k := 28) (by omega)).1 (by simp only [List.length_set, lens]; omega) (x := (by3 i0)) (nar_i8 _).symm (pc' := 239) rfl ?_
  show Go Z k 1 40 ((a1, ArI Z .byte (vs20.set (o + 28) (by3 i0))) :: []) 239 #[.val (.int i0), .val (.int i1), .val (.long i2), .second, .val (.int i3), .val (.int i4), .val (.int hh), .val (.int o.toInt32), .val (.ref a1), .unset, .unset, .unset] []
  refine s_aload H at_239 rfl rfl (pc' := 241) rfl ?_
  refine s_iload H at_241 rfl (pc' := 243) rfl ?_
  refine s_bipush H at_243 (z := (29 : Int32)) (by decide) (pc' := 245) rfl ?_
  refine s_iadd H at_245 (pc' := 246) rfl ?_
  refine s_iloadn H at_246 rfl (pc' := 247) rfl ?_
  refine s_bipush H at_247 (z := (16 : Int32)) (by decide) (pc' := 249) rfl ?_
  refine s_iushr H at_249 (pc' := 250) rfl ?_
  refine s_i2b H at_250 (pc' := 251) rfl ?_
  refine s_bastore H at_251 (i := 0) rfl (own_idx (o := o) (k := 29) (by omega)).2 (jn := (o + 29)) (own_idx (o := o) (k := 29) (by omega)).1 (by simp only [List.length_set, lens]; omega) (x := (by2 i0)) (nar_i8 _).symm (pc' := 252) rfl ?_
  show Go Z k 1 40 ((a1, ArI Z .byte ((vs20.set (o + 28) (by3 i0)).set (o + 29) (by2 i0))) :: []) 252 #[.val (.int i0), .val (.int i1), .val (.long i2), .second, .val (.int i3), .val (.int i4), .val (.int hh), .val (.int o.toInt32), .val (.ref a1), .unset, .unset, .unset] []
  refine s_aload H at_252 rfl rfl (pc' := 254) rfl ?_
  refine s_iload H at_254 rfl (pc' := 256) rfl ?_
  refine s_bipush H at_256 (z := (30 : Int32)) (by decide) (pc' := 258) rfl ?_
  refine s_iadd H at_258 (pc' := 259) rfl ?_
  refine s_iloadn H at_259 rfl (pc' := 260) rfl ?_
  refine s_bipush H at_260 (z := (8 : Int32)) (by decide) (pc' := 262) rfl ?_
  refine s_iushr H at_262 (pc' := 263) rfl ?_
  refine s_i2b H at_263 (pc' := 264) rfl ?_
  refine s_bastore H at_264 (i := 0) rfl (own_idx (o := o) (k := 30) (by omega)).2 (jn := (o + 30)) (own_idx (o := o) (k := 30) (by omega)).1 (by simp only [List.length_set, lens]; omega) (x := (by1 i0)) (nar_i8 _).symm (pc' := 265) rfl ?_
  show Go Z k 1 40 ((a1, ArI Z .byte (((vs20.set (o + 28) (by3 i0)).set (o + 29) (by2 i0)).set (o + 30) (by1 i0))) :: []) 265 #[.val (.int i0), .val (.int i1), .val (.long i2), .second, .val (.int i3), .val (.int i4), .val (.int hh), .val (.int o.toInt32), .val (.ref a1), .unset, .unset, .unset] []
  refine s_aload H at_265 rfl rfl (pc' := 267) rfl ?_
  refine s_iload H at_267 rfl (pc' := 269) rfl ?_
  refine s_bipush H at_269 (z := (31 : Int32)) (by decide) (pc' := 271) rfl ?_
  refine s_iadd H at_271 (pc' := 272) rfl ?_
  refine s_iloadn H at_272 rfl (pc' := 273) rfl ?_
  refine s_i2b H at_273 (pc' := 274) rfl ?_
  refine s_bastore H at_274 (i := 0) rfl (own_idx (o := o) (k := 31) (by omega)).2 (jn := (o + 31)) (own_idx (o := o) (k := 31) (by omega)).1 (by simp only [List.length_set, lens]; omega) (x := (by0 i0)) (nar_i8 _).symm (pc' := 275) rfl ?_
  show Go Z k 1 40 ((a1, ArI Z .byte ((((vs20.set (o + 28) (by3 i0)).set (o + 29) (by2 i0)).set (o + 30) (by1 i0)).set (o + 31) (by0 i0))) :: []) 275 #[.val (.int i0), .val (.int i1), .val (.long i2), .second, .val (.int i3), .val (.int i4), .val (.int hh), .val (.int o.toInt32), .val (.ref a1), .unset, .unset, .unset] []
  refine s_aload H at_275 rfl rfl (pc' := 277) rfl ?_
  refine s_iload H at_277 rfl (pc' := 279) rfl ?_
  refine s_iload H at_279 rfl (pc' := 281) rfl ?_
  refine s_static H (met_lo H.tb a1 ((((vs20.set (o + 28) (by3 i0)).set (o + 29) (by2 i0)).set (o + 30) (by1 i0)).set (o + 31) (by0 i0)) o hh (by3 i0) (by2 i0) (by1 i0) (by0 i0) ho (own_get4 lens ho).1 (own_get4 lens ho).2.1 (own_get4 lens ho).2.2.1 (own_get4 lens ho).2.2.2) at_281 (mem (i := 2) rfl) (mem (i := 3) rfl) (mem (i := 4) rfl) (mem (i := 5) rfl) (by decide) pd_1 rfl (rest := []) rfl rfl (by decide) (Nat.le_of_ble_eq_true rfl) (cn' := 1) (sn' := 40) rfl rfl (by decide) (by decide) (pc' := 284) rfl (fun _ _ hq => ?_)
  obtain ⟨rfl, rfl⟩ := hq
  show Go Z k 1 40 ((a1, ArI Z .byte ((((vs20.set (o + 28) (by3 i0)).set (o + 29) (by2 i0)).set (o + 30) (by1 i0)).set (o + 31) (by0 i0))) :: []) 284 #[.val (.int i0), .val (.int i1), .val (.long i2), .second, .val (.int i3), .val (.int i4), .val (.int hh), .val (.int o.toInt32), .val (.ref a1), .unset, .unset, .unset] [(.int (low4 (by3 i0) (by2 i0) (by1 i0) (by0 i0) &&& (((1 : Int32) <<< ((hh - 1) &&& 31)) - 1)))]
  rw [own_low i0]
  refine s_istore H at_284 (L' := fun z => #[.val (.int i0), .val (.int i1), .val (.long i2), .second, .val (.int i3), .val (.int i4), .val (.int hh), .val (.int o.toInt32), .val (.ref a1), .val (.int z), .unset, .unset]) (fun _ => rfl) (pc' := 286) rfl (fun got h_got => ?_)
  refine s_iloadn H at_286 rfl (pc' := 287) rfl ?_
  refine s_i2l H at_287 (pc' := 288) rfl ?_
  refine s_ldc2 H at_288 (mem (i := 9) rfl) (pc' := 291) rfl ?_
  refine s_land H at_291 (pc' := 292) rfl ?_
  refine s_lconst H at_292 (z := (1 : Int64)) (by decide) (pc' := 293) rfl ?_
  refine s_iload H at_293 rfl (pc' := 295) rfl ?_
  refine s_iconst H at_295 (z := (1 : Int32)) (by decide) (pc' := 296) rfl ?_
  refine s_isub H at_296 (pc' := 297) rfl ?_
  refine s_lshl H at_297 (pc' := 298) rfl ?_
  refine s_lrem H at_298 hf.1 (pc' := 299) rfl ?_
  refine s_lstore H at_299 (L' := fun z => #[.val (.int i0), .val (.int i1), .val (.long i2), .second, .val (.int i3), .val (.int i4), .val (.int hh), .val (.int o.toInt32), .val (.ref a1), .val (.int got), .val (.long z), .second]) (fun _ => rfl) (pc' := 301) rfl (fun ex h_ex => ?_)
  refine s_iload H at_301 rfl (pc' := 303) rfl ?_
  refine s_if H at_303 (py := 319) (pc' := 306) z_lt (by decide) rfl (fun c303 => ?_) (fun c303 => ?_)
  · refine s_iconst H at_319 (z := (0 : Int32)) (by decide) (pc' := 320) rfl ?_
    exfalso
    exact hf.2.1 (h_got ▸ c303)
  · refine s_iload H at_306 rfl (pc' := 308) rfl ?_
    refine s_i2l H at_308 (pc' := 309) rfl ?_
    refine s_lload H at_309 rfl (pc' := 311) rfl ?_
    refine s_lcmp H at_311 (pc' := 312) rfl ?_
    refine s_if H at_312 (py := 319) (pc' := 315) l_ne (by decide) rfl (fun c312 => ?_) (fun c312 => ?_)
    · refine s_iconst H at_319 (z := (0 : Int32)) (by decide) (pc' := 320) rfl ?_
      exfalso
      exact c312 (by rw [h_got, h_ex]; exact hf.2.2)
    · refine s_iconst H at_315 (z := (1 : Int32)) (by decide) (pc' := 316) rfl ?_
      refine s_goto H at_316 (pc' := 320) (by decide) ?_
      exact s_iret H at_320 rfl (by simp) (by decide) (by decide) (rfl)
set_option maxRecDepth 65536 in
set_option maxHeartbeats 40000000 in
theorem s0 {Z : State} {k : Cx} {i0 i1 i3 i4 : Int32} {i2 : Int64} (H : Ok Z k room_1 (LQ) x code maxLocals ret)  : Go Z k 0 0 ([] : Hp) 0 #[.val (.int i0), .val (.int i1), .val (.long i2), .second, .val (.int i3), .val (.int i4), .unset, .unset, .unset, .unset, .unset, .unset] [] := by
  refine s_iconst H at_0 (z := (1 : Int32)) (by decide) (pc' := 1) rfl ?_
  refine s_iload H at_1 rfl (pc' := 3) rfl ?_
  refine s_ldc H at_3 (mem (i := 0) rfl) (pc' := 5) rfl ?_
  refine s_iand H at_5 (pc' := 6) rfl ?_
  refine s_bipush H at_6 (z := (25 : Int32)) (by decide) (pc' := 8) rfl ?_
  refine s_irem H at_8 (by decide) (pc' := 9) rfl ?_
  refine s_iadd H at_9 (pc' := 10) rfl ?_
  refine s_istore H at_10 (L' := fun z => #[.val (.int i0), .val (.int i1), .val (.long i2), .second, .val (.int i3), .val (.int i4), .val (.int z), .unset, .unset, .unset, .unset, .unset]) (fun _ => rfl) (pc' := 12) rfl (fun hh h_hh => ?_)
  refine s_iload H at_12 rfl (pc' := 14) rfl ?_
  refine s_iconst H at_14 (z := (3 : Int32)) (by decide) (pc' := 15) rfl ?_
  refine s_iand H at_15 (pc' := 16) rfl ?_
  refine s_istore H at_16 (L' := fun z => #[.val (.int i0), .val (.int i1), .val (.long i2), .second, .val (.int i3), .val (.int i4), .val (.int hh), .val (.int z), .unset, .unset, .unset, .unset]) (fun _ => rfl) (pc' := 18) rfl (fun off h_off => ?_)
  have m1 := c_mask i4 2147483647 31 (by decide) (by decide)
  have m2 := (c_irem (i4 &&& 2147483647) 25 25 (by decide)).1 (by omega)
  have m3 := c_iadd 1 ((i4 &&& 2147483647) % 25)
  have r3 := rng32 hh
  have m4 := c_mask i3 3 2 (by decide) (by decide)
  rw [← h_hh] at m3
  rw [← h_off] at m4
  have o1 : (1 : Int32).toInt = 1 := by decide
  have eo : off = off.toInt.toNat.toInt32 := by
    apply Int32.toInt_inj.mp
    rw [(own_nat (by omega)).2.2]; omega
  have eh : hh = Int32.ofNat ((hh.toInt.toNat - 1) + 1) := by
    apply Int32.toInt_inj.mp
    rw [show Int32.ofNat ((hh.toInt.toNat - 1) + 1) = ((hh.toInt.toNat - 1) + 1).toInt32 from rfl, (own_nat (by omega)).2.2]; omega
  rw [eo]
  exact s18 off.toInt.toNat (hh.toInt.toNat - 1) H (by omega) (by omega) eh
theorem pl_0 : plainFor x = true := plainFor_of_name (by first | (simp [plainName, overriddenIn, x]; done) | decide +kernel)
set_option maxRecDepth 65536 in
set_option maxHeartbeats 40000000 in
theorem met_law {Z : State} (HT : Tb Z) (l : Launch) (ws : List Jvm.Cond) (i0 : Int32) (i1 : Int32) (i2 : Int64) (i3 : Int32) (i4 : Int32) (h0 : Heap) (hO : Own Z h0 []) :
    MetFree l x (head1 (Jvm.Cond.code x code maxLocals ret :: ws) room_1) (fun a U => a = [(.int i0), (.int i1), (.long i2), (.int i3), (.int i4)].toArray ∧ Z.Warmed39 U.vm ∧ U.heap = h0) (fun _ _ _ _ _ => True) (fun _ U o U' => ∃ v L, o = .returned v ∧ (Fr Z.heap.size L ∧ ∃ M, LQ v M ∧ Own Z U'.heap M) ∧ FrameEnd U o U' L room_1.cells room_1.slots) :=
  met_of l HT pl_0 (Ls := #[.val (.int i0), .val (.int i1), .val (.long i2), .second, .val (.int i3), .val (.int i4), .unset, .unset, .unset, .unset, .unset, .unset]) (fun m => by first | rfl | (simp [entryFrame, mkF, argsToLocals, Value.category, maxLocals]; done)) hO (fun k H => s0 H)
set_option maxRecDepth 65536 in
set_option maxHeartbeats 40000000 in
theorem comes_1 {Post : Tables → Env → Array Value → State → Outcome → State → Prop} (hpost : ∀ tb e args s v u, (limb_1_1.after args s (.returned v) u = true ∧ limb_1_2.after args s (.returned v) u = true ∧ True) → FrameEnd s (.returned v) u (Jvm.fieldLocs frame_1_writes args s ++ Jvm.arrayLocs frame_1_arrays args s ++ Jvm.staticLocs frame_1_statics s) 16 192 → Post tb e args s (.returned v) u) :
    ArmFor flags0 classFile x code maxLocals ret World_1 tables_1 room_1 Calls_1 rest_1 Pre_1 Post := by
  intro l hfl _ _ p e ha hc hk s m args below hf hA hF happ hP
  obtain ⟨hcalls, hrest, hpre⟩ := hP
  obtain ⟨-, -, -, hnamed, -, -, -, hat⟩ := (Spec.applies_iff hf).mp happ
  obtain ⟨hg, hn⟩ := and_e (Cond.before_iff.mp (show (Jvm.Cond.and given_1 narrow_1).before args s = true from hpre))
  obtain ⟨hcnt, hg0⟩ := and_e hg
  obtain ⟨hv0, hg1⟩ := and_e hg0
  obtain ⟨hv1, hg2⟩ := and_e hg1
  obtain ⟨hv2, hg3⟩ := and_e hg2
  obtain ⟨hv3, hg4⟩ := and_e hg3
  obtain ⟨w0, w1, w2, w3, w4, rfl⟩ : ∃ w0 w1 w2 w3 w4 : Value, args = #[w0, w1, w2, w3, w4] := by
    have hs : args.size = 5 := by simpa [Cond.value, given_1] using hcnt
    obtain ⟨L⟩ := args
    match L, hs with
    | [w0, w1, w2, w3, w4], _ => exact ⟨w0, w1, w2, w3, w4, rfl⟩
  have hw := fun d (hd : d ∈ tables_1) => atoms_spec (ws := Jvm.Cond.code x code maxLocals ret :: tables_1) hat d (List.mem_cons_of_mem _ hd)
  obtain ⟨i0, ei0⟩ := is_v hv0
  obtain rfl : w0 = (.int i0) := Option.some.inj ei0
  obtain ⟨i1, ei1⟩ := is_v hv1
  obtain rfl : w1 = (.int i1) := Option.some.inj ei1
  obtain ⟨i2, ei2⟩ := isL_v hv2
  obtain rfl : w2 = (.long i2) := Option.some.inj ei2
  obtain ⟨i3, ei3⟩ := is_v hv3
  obtain rfl : w3 = (.int i3) := Option.some.inj ei3
  obtain ⟨i4, ei4⟩ := is_v hg4
  obtain rfl : w4 = (.int i4) := Option.some.inj ei4
  have hO : Own s s.heap [] := ⟨⟨Nat.le_refl _, fun _ _ q => q⟩, fun i x hx => (by cases hx), fun i j x y hx => (by cases hx)⟩
  obtain ⟨n, o, h1, h2, h3, v, L, rfl, ⟨N, M, hv, -⟩, hq⟩ := met_law (Z := s) ⟨_, hw⟩ l tables_1 i0 i1 i2 i3 i4 s.heap hO p e ha hc hk s m _ below hf ((Spec.applies_iff_loose hf).mp happ).1 ⟨rfl, State.Warmed39.refl s, rfl⟩ trivial
  obtain rfl : v = some (.int 1) := hv
  exact ⟨n, _, h1, h2, h3, hpost _ _ _ _ _ _ ⟨Cond.after_iff.mpr rfl, Cond.after_iff.mpr (eq_i res_at (Term.int_eval (1)) rfl), trivial⟩ ⟨hq.1, hq.2.1, (hq.2.2.sift fun y hy => Or.inr (N y hy)).mono (by decide) (by decide)⟩⟩
theorem main_1_1 : Claimed_1_1 := comes_1 fun _ _ _ _ _ _ h hF => ⟨h.1, hF⟩
theorem main_1_2 : Claimed_1_2 := comes_1 fun _ _ _ _ _ _ h hF => ⟨h.2.1, hF⟩
end Jvm.Pilot.@@N@@
namespace Jvm.Pilot.@@N@@
open Jvm Jvm.ClassFile Sem Op Lib Jvm.Free Jvm.Stand Jvm.Pilot.@@N@@.Jvm.D
/-! MADE BY PROGRAM (witnessworld.py) out of the Statement's table words and the real class files: 9 classes; the members and pool entries that the words name. The judged class is class 1, her method 1. -/
namespace start1
open Jvm.ClassFile
def u (s : String) : CpInfo := .utf8 (stringToUtf16 s)
/-- a pool by its gaps: so many unusable entries, then the entry; so many at the end -/
def gap : Nat → List CpInfo → List CpInfo
  | 0, r => r
  | n + 1, r => .unusable :: gap n r
def poolList (es : List (Nat × CpInfo)) (last : Nat) : List CpInfo := es.foldr (fun e r => gap e.1 (e.2 :: r)) (gap last [])
def pool (es : List (Nat × CpInfo)) (last : Nat) : Array CpInfo := ⟨poolList es last⟩
def fileOf (pool : Array CpInfo) (this : Nat) (attrs : Array Attribute := #[]) (ms : Array MethodInfo := #[]) (fl : Nat := 33) (sup : Nat := 0) (ifs : Array Nat := #[]) (fds : Array FieldInfo := #[]) : ClassFile where
  minorVersion := 0
  majorVersion := 65
  constantPool := pool
  accessFlags := fl
  thisClass := this
  superClass := sup
  interfaces := ifs
  fields := fds
  methods := ms
  attributes := attrs
def plain (name : String) (sup : Option ClassId) : Class where
  name := name
  kind := .ordinary
  loader := none
  accessFlags := 33
  super := sup
  interfaces := #[]
  cf := none
  fields := #[]
  methods := #[]
  instanceTypes := #[]
  staticTypes := #[]
  resolved := #[]
  callSites := []
  init := .initialized
  statics := none
  mirror := none

def pool0 : Array CpInfo := pool [(5, u "<init>"), (0, u "()V"), (1, .class_ 10), (1, u "java/lang/Object")] 113

def k0m0 : Method := { name := "<init>", desc := "()V", sig := { parameters := [], returnType := none }, accessFlags := 1, code := none }
/-- java/lang/Object -/
def k0 : Class := { plain "java/lang/Object" none with
  accessFlags := 33
  interfaces := #[]
  cf := some (fileOf pool0 8 #[] #[{ accessFlags := 1, nameIndex := 5, descriptorIndex := 6, attributes := #[] }] 33 0 #[] #[])
  fields := #[]
  methods := #[k0m0]
  instanceTypes := #[]
  staticTypes := #[]
  resolved := Array.replicate 124 none
  statics := none }

def pool1 : Array CpInfo := pool [(2, .class_ 4), (1, u "java/lang/Object"), (0, u "<init>"), (0, u "()V"), (0, .integer 2147483647), (0, .methodref 9 10), (0, .class_ 11), (0, .nameAndType 12 13), (0, u "com/example/remint/remint/HashTree"), (0, u "leafOf"), (0, u "([BII)I"), (0, .long 4294967295), (1, .class_ 17), (0, u "com/example/remint/remint/HashTreeLeafOfPinLaw"), (2, u "law"), (0, u "(IIJII)Z")] 5

def k1m0 : Method := { name := "<init>", desc := "()V", sig := { parameters := [], returnType := none }, accessFlags := 1, code := none }
def k1c1 : Code := { maxStack := 6, maxLocals := 12, code := code, exceptionTable := #[], attributes := #[] }
def k1m1 : Method := { name := "law", desc := "(IIJII)Z", sig := { parameters := [.int, .int, .long, .int, .int], returnType := some .boolean }, accessFlags := 9, code := some k1c1 }
/-- com/example/remint/remint/HashTreeLeafOfPinLaw -/
def k1 : Class := { plain "com/example/remint/remint/HashTreeLeafOfPinLaw" (some 0) with
  accessFlags := 49
  interfaces := #[]
  cf := some (fileOf pool1 16 #[] #[{ accessFlags := 1, nameIndex := 5, descriptorIndex := 6, attributes := #[] }, { accessFlags := 9, nameIndex := 20, descriptorIndex := 21, attributes := #[] }] 49 2 #[] #[])
  fields := #[]
  methods := #[k1m0, k1m1]
  instanceTypes := #[]
  staticTypes := #[]
  resolved := Array.replicate 27 none
  statics := none }

def pool2 : Array CpInfo := pool [(1, .class_ 2), (0, u "com/example/remint/remint/HashTree"), (1, .class_ 6), (1, u "java/lang/Object"), (0, u "<init>"), (0, u "()V"), (17, .methodref 1 27), (0, .nameAndType 28 29), (0, u "leafCount"), (0, u "(I)I"), (17, u "BY_KEY_HASH"), (0, u "Ljava/util/Comparator;"), (32, u "leafOf"), (0, u "([BII)I"), (41, u "HASH_BYTES"), (0, u "I"), (2, u "ENTRY_BYTES"), (1, u "MAX_HEIGHT"), (3, u "LEAF_TAG"), (0, u "B"), (1, u "NODE_TAG"), (28, .class_ 167), (0, u "com/example/remint/remint/HashTree$Climber")] 28

def k2m0 : Method := { name := "<init>", desc := "()V", sig := { parameters := [], returnType := none }, accessFlags := 2, code := none }
def k2c1 : Code := { maxStack := 3, maxLocals := 1, code := prog_4_method_4_code, exceptionTable := #[], attributes := #[] }
def k2m1 : Method := { name := "leafCount", desc := "(I)I", sig := { parameters := [.int], returnType := some .int }, accessFlags := 9, code := some k2c1 }
def k2c2 : Code := { maxStack := 4, maxLocals := 5, code := prog_4_method_6_code, exceptionTable := #[], attributes := #[] }
def k2m2 : Method := { name := "leafOf", desc := "([BII)I", sig := { parameters := [(.array .byte), .int, .int], returnType := some .int }, accessFlags := 9, code := some k2c2 }
/-- com/example/remint/remint/HashTree -/
def k2 : Class := { plain "com/example/remint/remint/HashTree" (some 0) with
  accessFlags := 49
  interfaces := #[]
  cf := some (fileOf pool2 1 #[.nestMembers #[166]] #[{ accessFlags := 2, nameIndex := 7, descriptorIndex := 8, attributes := #[] }, { accessFlags := 9, nameIndex := 28, descriptorIndex := 29, attributes := #[] }, { accessFlags := 9, nameIndex := 81, descriptorIndex := 82, attributes := #[] }] 49 4 #[] #[{ accessFlags := 25, nameIndex := 124, descriptorIndex := 125, attributes := #[] }, { accessFlags := 25, nameIndex := 128, descriptorIndex := 125, attributes := #[] }, { accessFlags := 25, nameIndex := 130, descriptorIndex := 125, attributes := #[] }, { accessFlags := 25, nameIndex := 47, descriptorIndex := 48, attributes := #[] }, { accessFlags := 26, nameIndex := 134, descriptorIndex := 135, attributes := #[] }, { accessFlags := 26, nameIndex := 137, descriptorIndex := 135, attributes := #[] }])
  fields := #[{ name := "HASH_BYTES", type := .int, accessFlags := 25, slot := 0, constantValue := 0 }, { name := "ENTRY_BYTES", type := .int, accessFlags := 25, slot := 1, constantValue := 0 }, { name := "MAX_HEIGHT", type := .int, accessFlags := 25, slot := 2, constantValue := 0 }, { name := "BY_KEY_HASH", type := (.object "java/util/Comparator"), accessFlags := 25, slot := 3, constantValue := 0 }, { name := "LEAF_TAG", type := .byte, accessFlags := 26, slot := 4, constantValue := 0 }, { name := "NODE_TAG", type := .byte, accessFlags := 26, slot := 5, constantValue := 0 }]
  methods := #[k2m0, k2m1, k2m2]
  instanceTypes := #[]
  staticTypes := #[.int, .int, .int, (.object "java/util/Comparator"), .byte, .byte]
  resolved := Array.replicate 196 none
  statics := none }

def pool3 : Array CpInfo := pool [(1, u "java/lang/Cloneable"), (0, .class_ 1), (0, u "java/lang/Object"), (0, .class_ 3)] 3

/-- java/lang/Cloneable -/
def k3 : Class := { plain "java/lang/Cloneable" (some 0) with
  accessFlags := 1537
  interfaces := #[]
  cf := some (fileOf pool3 2 #[] #[] 1537 4 #[] #[])
  fields := #[]
  methods := #[]
  instanceTypes := #[]
  staticTypes := #[]
  resolved := Array.replicate 8 none
  statics := none }

def pool4 : Array CpInfo := pool [(1, u "java/io/Serializable"), (0, .class_ 1), (0, u "java/lang/Object"), (0, .class_ 3)] 3

/-- java/io/Serializable -/
def k4 : Class := { plain "java/io/Serializable" (some 0) with
  accessFlags := 1537
  interfaces := #[]
  cf := some (fileOf pool4 2 #[] #[] 1537 4 #[] #[])
  fields := #[]
  methods := #[]
  instanceTypes := #[]
  staticTypes := #[]
  resolved := Array.replicate 8 none
  statics := none }

/-- the primitive byte -/
def k5 : Class := { plain "byte" none with kind := .primitive 'B', accessFlags := 0x411 }
/-- [B -/
def k6 : Class := { plain "[B" (some 0) with kind := .array 5 .byte, interfaces := #[3, 4], accessFlags := 1041 }

/-- the primitive int -/
def k7 : Class := { plain "int" none with kind := .primitive 'I', accessFlags := 0x411 }
/-- [I -/
def k8 : Class := { plain "[I" (some 0) with kind := .array 7 .int, interfaces := #[3, 4], accessFlags := 1041 }

def heap : Heap := #[]
def classes : Array Class := #[k0, k1, k2, k3, k4, k5, k6, k7, k8]
def interned : List (Array UInt16 × Addr) := []
def slotsUsed : Nat := 0
def theMethod : MethodId := ⟨1, 1⟩
def args0 : Array Value := #[.int 5, .int 7, .long 9, .int 1, .int 3]
def aboutOver (below : List Frame) : State where
  vm := { classes := classes, interned := interned.toArray }
  heap := heap
  slotsUsed := slotsUsed
  threads := #[{ frames := .invoking theMethod args0 :: below }]
def below0 : List Frame := [.native { method := ⟨0, 0⟩, args := #[] }]
def about1 : State := aboutOver below0
def p0 : Program := .bare "" "" ""
def e0 : Env := launch0.env 0 0 0
theorem w_frames : about1.frames = Frame.invoking theMethod args0 :: below0 := rfl
set_option maxRecDepth 65536 in
theorem w_args : argsFit about1.vm theMethod args0 = true := by decide +kernel
set_option maxRecDepth 65536 in
theorem w_heap : heapFits about1 = true := by decide +kernel
set_option maxRecDepth 65536 in
theorem w_runnable : about1.curStatus? = some .runnable := by decide +kernel
set_option maxRecDepth 65536 in
theorem w_alone : about1.alone = true := by decide +kernel
set_option maxRecDepth 65536 in
theorem w_named : about1.methodNamed? x = some theMethod := by decide +kernel
set_option maxRecDepth 65536 in
theorem w_hears : about1.hears theMethod below0 = true := by decide +kernel
set_option maxRecDepth 65536 in
theorem w_ripe : about1.ripe theMethod args0 below0 = true := by decide +kernel
theorem w_running : about1.status = .running := rfl
set_option maxRecDepth 65536 in
theorem w_room : about1.hasRoom e0.platform room_1 = true :=
  launch0.hasRoom_least _ room_1 (by decide +kernel) (by decide +kernel) (by decide +kernel) (by decide +kernel) (by decide +kernel) (by decide +kernel)
theorem allAtoms_all (ts : List Jvm.Cond) (a : Array Jvm.Value) (st : Jvm.State) : (allAtoms ts).before a st = ts.all (fun c => c.before a st) := by
  induction ts with
  | nil => rfl
  | cons c t ih =>
    show (Jvm.Cond.and c (allAtoms t)).before a st = _
    rw [Jvm.Cond.before_and, ih, List.all_cons]
def words1 : List Jvm.Cond := Jvm.Cond.code x code maxLocals ret :: tables_1
/-- a 'code' word, met by the world's own term for the bytes: nothing is compared byte by byte -/
theorem code_word {y : MethodName} {bytes : ByteArray} {mx : Nat} {rt : Option FieldType} {a : Array Value} {s : State} {m : MethodId} {meth : Method} {c : Code} (h1 : s.methodNamed? y = some m) (h2 : s.vm.method? m = some meth) (h3 : meth.code = some c) (h4 : c.code = bytes)
    (h5 : (c.maxLocals == mx && c.exceptionTable.isEmpty && decide (c.maxStack ≤ mostOperands) && decide (meth.sig.returnType = rt) && !meth.locks && decide (parseMethodDescriptor y.desc = some meth.sig)) = true) : (Jvm.Cond.code y bytes mx rt).before a s = true := by
  simp only [Bool.and_eq_true, beq_iff_eq, Bool.not_eq_true', decide_eq_true_eq] at h5
  obtain ⟨⟨⟨⟨⟨g1, g2⟩, g3⟩, g4⟩, g5⟩, g6⟩ := h5
  simp [Cond.before, Cond.holds, Cond.value, h1, h2, h3, h4, g1, g2, g3, g4, g5, g6]
def isCode : Jvm.Cond → Bool
  | .code _ _ _ _ => true
  | _ => false
theorem all_split {L : List Jvm.Cond} {P : Jvm.Cond → Bool} (h1 : L.all (fun c => isCode c || P c) = true) (h2 : ∀ c ∈ L.filter isCode, P c = true) : L.all P = true := by
  refine List.all_eq_true.mpr fun c hc => ?_
  have h := List.all_eq_true.mp h1 c hc
  rcases Bool.eq_false_or_eq_true (isCode c) with hi | hi
  · exact h2 c (List.mem_filter.mpr ⟨hc, hi⟩)
  · simpa [hi] using h
set_option maxRecDepth 65536 in
theorem w_c0 : (Jvm.Cond.code x code maxLocals ret).before args0 about1 = true := code_word (m := ⟨1, 1⟩) (meth := k1m1) (c := k1c1) (by decide +kernel) rfl rfl rfl (by decide +kernel)
set_option maxRecDepth 65536 in
theorem w_c1 : (Jvm.Cond.code ({ cls := "com/example/remint/remint/HashTree", name := "leafOf", desc := "([BII)I" } : Jvm.MethodName) prog_4_method_6_code (5 : Nat) (Option.some Jvm.ClassFile.FieldType.int)).before args0 about1 = true := code_word (m := ⟨2, 2⟩) (meth := k2m2) (c := k2c2) (by decide +kernel) rfl rfl rfl (by decide +kernel)
set_option maxRecDepth 65536 in
theorem w_c2 : (Jvm.Cond.code ({ cls := "com/example/remint/remint/HashTree", name := "leafCount", desc := "(I)I" } : Jvm.MethodName) prog_4_method_4_code (1 : Nat) (Option.some Jvm.ClassFile.FieldType.int)).before args0 about1 = true := code_word (m := ⟨2, 1⟩) (meth := k2m1) (c := k2c1) (by decide +kernel) rfl rfl rfl (by decide +kernel)
def codes1 : List Jvm.Cond := [Jvm.Cond.code x code maxLocals ret, Jvm.Cond.code ({ cls := "com/example/remint/remint/HashTree", name := "leafOf", desc := "([BII)I" } : Jvm.MethodName) prog_4_method_6_code (5 : Nat) (Option.some Jvm.ClassFile.FieldType.int), Jvm.Cond.code ({ cls := "com/example/remint/remint/HashTree", name := "leafCount", desc := "(I)I" } : Jvm.MethodName) prog_4_method_4_code (1 : Nat) (Option.some Jvm.ClassFile.FieldType.int)]
set_option maxRecDepth 65536 in
theorem codes_eq : words1.filter isCode = codes1 := rfl
theorem w_codes : ∀ c ∈ words1.filter isCode, c.before args0 about1 = true := by
  rw [codes_eq]
  intro c hc
  simp only [codes1, List.mem_cons, List.not_mem_nil, or_false] at hc
  rcases hc with rfl | rfl | rfl
  · exact w_c0
  · exact w_c1
  · exact w_c2
set_option maxRecDepth 65536 in
theorem w_t1 : words1.all (fun c => isCode c || c.before args0 about1) = true := by decide +kernel
theorem w_tables : (allAtoms (Jvm.Cond.code x code maxLocals ret :: tables_1)).before args0 about1 = true := by
  rw [allAtoms_all]
  show words1.all (fun c => c.before args0 about1) = true
  refine all_split ?_ w_codes
  rw [w_t1]
set_option maxRecDepth 65536 in
theorem w_case : (Jvm.Cond.and given_1 narrow_1).before args0 about1 = true := by decide +kernel
theorem w_applies : (headSpec (Jvm.Cond.code x code maxLocals ret :: tables_1) room_1).applies x e0.platform about1 = true :=
  (Spec.applies_iff w_frames).mpr ⟨w_running, w_runnable, w_alone, w_named, w_hears, w_ripe, w_room, w_tables⟩
theorem atStart : AtStart classFile x code maxLocals ret World_1 tables_1 room_1 Calls_1 rest_1 Pre_1 launch0 p0 e0 about1 theMethod args0 below0 :=
  ⟨lists_1, trivial, launch0.admits_env _ _ _, launch0.least_env, fairChoices_fair.cas, fairChoices_fair.clock, w_frames, w_args, w_heap, w_applies, trivial, trivial, w_case⟩
end start1
theorem witness_1 : WitnessClaimed_1 := ⟨start1.p0, start1.e0, start1.about1, start1.theMethod, start1.args0, start1.below0, start1.atStart⟩
end Jvm.Pilot.@@N@@
