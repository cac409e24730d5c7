import JvmDerived
import JvmDerived.Pilot.@@N@@Statement
import JvmDerived.Pilot.@@N@@Code
set_option linter.unusedVariables false
set_option linter.unusedSimpArgs false
namespace Jvm.Pilot.@@N@@
open Jvm Jvm.ClassFile Sem Op Lib Jvm.Free Jvm.Stand Jvm.LawKit Jvm.RoadKit Bundle Jvm.Pilot.@@N@@.Jvm.D
/-! OWN KIT 1: the fresh part of the heap: a list of (address, what its cell is) -/
abbrev Hp : Type := List (Addr × (Cell → Prop))
def Own (Z : State) (h : Heap) (M : Hp) : Prop := Ext Z.heap h ∧ (∀ (i : Nat) x, M[i]? = some x → Z.heap.size ≤ x.1 ∧ ∃ c : Cell, h[x.1]? = some c ∧ x.2 c) ∧ ∀ (i j : Nat) x y, M[i]? = some x → M[j]? = some y → x.1 = y.1 → i = j
theorem Own.ch {Z : State} {h h' : Heap} {M : Hp} {i : Nat} {a : Addr} {P P' : Cell → Prop} (O : Own Z h M) (hi : M[i]? = some (a, P)) (hs : h.size ≤ h'.size) (hk : ∀ (x : Addr) (c : Cell), h[x]? = some c → x ≠ a → h'[x]? = some c) (hc : ∃ c : Cell, h'[a]? = some c ∧ P' c) : Own Z h' (M.set i (a, P')) := by
  obtain ⟨o1, o2, o3⟩ := O
  have hil : i < M.length := (List.getElem?_eq_some_iff.mp hi).1
  have key : ∀ (j : Nat) x, (M.set i (a, P'))[j]? = some x → (j = i ∧ x = (a, P')) ∨ (j ≠ i ∧ M[j]? = some x) := by
    intro j x hx
    by_cases e : j = i
    · subst e
      rw [List.getElem?_set_self hil] at hx
      exact Or.inl ⟨rfl, (Option.some.inj hx).symm⟩
    · rw [List.getElem?_set_ne (Ne.symm e)] at hx
      exact Or.inr ⟨e, hx⟩
  refine ⟨⟨Nat.le_trans o1.1 hs, fun x c hx => hk x c (o1.2 x c hx) ?_⟩, fun j x hx => ?_, fun j j' x y hx hy e => ?_⟩
  · have h1 := (Array.getElem?_eq_some_iff.mp hx).1
    have h2 := (o2 i _ hi).1
    exact Nat.ne_of_lt (Nat.lt_of_lt_of_le h1 h2)
  · rcases key j x hx with ⟨rfl, rfl⟩ | ⟨ne, hx'⟩
    · exact ⟨(o2 j _ hi).1, hc⟩
    · obtain ⟨q1, c, q2, q3⟩ := o2 j x hx'
      exact ⟨q1, c, hk _ _ q2 (fun e => ne (o3 j i _ _ hx' hi e)), q3⟩
  · rcases key j x hx with ⟨rfl, rfl⟩ | ⟨ne, hx'⟩ <;> rcases key j' y hy with ⟨rfl, rfl⟩ | ⟨ne', hy'⟩
    · rfl
    · exact o3 _ _ _ _ hi hy' e
    · exact o3 _ _ _ _ hx' hi e
    · exact o3 _ _ _ _ hx' hy' e
theorem Own.upd {Z : State} {h h' : Heap} {M : Hp} {i : Nat} {a : Addr} {P P' : Cell → Prop} {sl : Nat} {v : Value} (O : Own Z h M) (hi : M[i]? = some (a, P)) (W : Wr h h' a sl v) (q : ∀ c : Cell, h[a]? = some c → P c → P' (c.setSlot sl v)) : Own Z h' (M.set i (a, P')) := by
  refine O.ch hi (Nat.le_of_eq W.size.symm) (fun x c hx ne => ?_) ?_
  · obtain ⟨c', e1, -, -, -, e5, -⟩ := wr_at W hx
    rw [e1, e5 ne]
  · obtain ⟨-, c, h1, h2⟩ := O.2.1 i _ hi
    obtain ⟨c', e1, -, -, -, -, -, e7⟩ := wr_at W h1
    exact ⟨c', e1, by rw [(e7 rfl).1]; exact q c h1 h2⟩
theorem Own.new {Z : State} {h h' : Heap} {M : Hp} {P : Cell → Prop} {c : Cell} (O : Own Z h M) (E : Ext h h') (hc : h'[h.size]? = some c) (q : P c) : Own Z h' ((h.size, P) :: M) := by
  obtain ⟨o1, o2, o3⟩ := O
  have lt : ∀ (j : Nat) x, M[j]? = some x → x.1 < h.size := fun j x hx => by
    obtain ⟨-, c, h1, -⟩ := o2 j x hx
    exact (Array.getElem?_eq_some_iff.mp h1).1
  refine ⟨⟨Nat.le_trans o1.1 E.1, fun x c hx => E.2 _ _ (o1.2 x c hx)⟩, fun j x hx => ?_, fun j j' x y hx hy e => ?_⟩
  · cases j with
    | zero => cases hx; exact ⟨o1.1, c, hc, q⟩
    | succ j => obtain ⟨q1, c, q2, q3⟩ := o2 j x hx; exact ⟨q1, c, E.2 _ _ q2, q3⟩
  · cases j <;> cases j'
    · rfl
    · cases hx; exact absurd e (Nat.ne_of_gt (lt _ _ hy))
    · cases hy; exact absurd e (Nat.ne_of_lt (lt _ _ hx))
    · exact congrArg _ (o3 _ _ _ _ hx hy e)
theorem Own.perm {Z : State} {h : Heap} {M M' : Hp} (O : Own Z h M) (p : M.Perm M') : Own Z h M' := by
  obtain ⟨o1, o2, o3⟩ := O
  have nd : (M.map Prod.fst).Nodup := by
    rw [List.nodup_iff_pairwise_ne, List.pairwise_iff_getElem]
    intro i j hi hj lt e
    simp only [List.length_map] at hi hj
    simp only [List.getElem_map] at e
    exact absurd (o3 i j _ _ (List.getElem?_eq_getElem hi) (List.getElem?_eq_getElem hj) e) (Nat.ne_of_lt lt)
  have nd' : (M'.map Prod.fst).Nodup := (p.map _).nodup_iff.mp nd
  refine ⟨o1, fun i x hx => ?_, fun i j x y hx hy e => ?_⟩
  · obtain ⟨j, hj⟩ := List.mem_iff_getElem?.mp (p.mem_iff.mpr (List.mem_of_getElem? hx))
    exact o2 j x hj
  · rw [List.nodup_iff_pairwise_ne, List.pairwise_iff_getElem] at nd'
    obtain ⟨hi, rfl⟩ := List.getElem?_eq_some_iff.mp hx
    obtain ⟨hj, rfl⟩ := List.getElem?_eq_some_iff.mp hy
    rcases Nat.lt_trichotomy i j with lt | rfl | lt
    · exact (nd' i j (by simpa using hi) (by simpa using hj) lt (by simpa using e)).elim
    · rfl
    · exact (nd' j i (by simpa using hj) (by simpa using hi) lt (by simpa using e.symm)).elim
theorem Own.ne {Z : State} {h : Heap} {M : Hp} {i j : Nat} {a b : Addr} {P P' : Cell → Prop} (O : Own Z h M) (hi : M[i]? = some (a, P)) (hj : M[j]? = some (b, P')) (ne : i ≠ j) : a ≠ b := fun e => ne (O.2.2 i j _ _ hi hj e)
/-! what a cell is: an object of the class C with these fields; an array of ints (bytes, booleans ..), an array of longs -/
abbrev Fd : Type := String × String × String × Value
def Apart (Z : State) (fs : List Fd) : Prop := ∀ (i j : Nat) f g, fs[i]? = some f → fs[j]? = some g → Jvm.RoadKit.slotOf Z f.1 f.2.1 f.2.2.1 = Jvm.RoadKit.slotOf Z g.1 g.2.1 g.2.2.1 → i = j
def Obj (Z : State) (C : String) (fs : List Fd) (c : Cell) : Prop := (∀ (h : Heap) (a : Addr), h[a]? = some c → Exa Z h a C ∧ ∀ (i : Nat) f, fs[i]? = some f → Fld Z h a f.1 f.2.1 f.2.2.1 f.2.2.2) ∧ Apart Z fs
def ArI (Z : State) (ty : FieldType) (vs : List Int32) (c : Cell) : Prop := Z.isArrayOf c ty ∧ c.vm ≠ .unknown ∧ c.slots = (vs.map Value.int).toArray ∧ vs.length < 2 ^ 31 ∧ ∀ x ∈ vs, fits ty (.int x) = true
def ArL (Z : State) (vs : List Int64) (c : Cell) : Prop := Z.isArrayOf c .long ∧ c.vm ≠ .unknown ∧ c.slots = (vs.map Value.long).toArray ∧ vs.length < 2 ^ 31
theorem exa_at_cell {Z : State} {h h' : Heap} {a a' : Addr} {C : String} {c : Cell} (E : Exa Z h a C) (hc : h[a]? = some c) (hc' : h'[a']? = some c) : Exa Z h' a' C := by
  obtain ⟨c1, k, h1, r⟩ := E
  cases h1.symm.trans hc
  exact ⟨_, k, hc', r⟩
theorem fld_at_cell {Z : State} {h h' : Heap} {a a' : Addr} {C n d : String} {v : Value} {c : Cell} (E : Fld Z h a C n d v) (hc : h[a]? = some c) (hc' : h'[a']? = some c) : Fld Z h' a' C n d v := by
  obtain ⟨c1, cf, k, i, f, h1, r⟩ := E
  cases h1.symm.trans hc
  exact ⟨_, cf, k, i, f, hc', r⟩
theorem Obj.put {Z : State} {C O n d : String} {fs : List Fd} {c : Cell} {j : Nat} {v w : Value} (B : Obj Z C fs c) (hj : fs[j]? = some (O, n, d, w)) {h h' : Heap} {a : Addr} (hc : h[a]? = some c) (W : Wr h h' a (Jvm.RoadKit.slotOf Z O n d) v) : Obj Z C (fs.set j (O, n, d, v)) (c.setSlot (Jvm.RoadKit.slotOf Z O n d) v) := by
  obtain ⟨b1, b2⟩ := B
  have hl : j < fs.length := (List.getElem?_eq_some_iff.mp hj).1
  have key : ∀ (i : Nat) x, (fs.set j (O, n, d, v))[i]? = some x → (i = j ∧ x = (O, n, d, v)) ∨ (i ≠ j ∧ fs[i]? = some x) := by
    intro i x hx
    by_cases e : i = j
    · subst e; rw [List.getElem?_set_self hl] at hx; exact Or.inl ⟨rfl, (Option.some.inj hx).symm⟩
    · rw [List.getElem?_set_ne (Ne.symm e)] at hx; exact Or.inr ⟨e, hx⟩
  have hnew : h'[a]? = some (c.setSlot (Jvm.RoadKit.slotOf Z O n d) v) := by
    obtain ⟨c', e1, -, -, -, -, -, e7⟩ := wr_at W hc
    rw [e1, (e7 rfl).1]
  refine ⟨fun h2 a2 h2c => ⟨exa_at_cell ((b1 h a hc).1.wr W) hnew h2c, fun i f hf => ?_⟩, fun i i' f g hf hg e => ?_⟩
  · rcases key i f hf with ⟨rfl, rfl⟩ | ⟨ne, hf'⟩
    · exact fld_at_cell (((b1 h a hc).2 i _ hj).same W) hnew h2c
    · exact fld_at_cell (((b1 h a hc).2 i _ hf').other W (Or.inr fun e => ne (b2 i j _ _ hf' hj e))) hnew h2c
  · rcases key i f hf with ⟨rfl, rfl⟩ | ⟨ne, hf'⟩ <;> rcases key i' g hg with ⟨rfl, rfl⟩ | ⟨ne', hg'⟩
    · rfl
    · exact b2 _ _ _ _ hj hg' e
    · exact b2 _ _ _ _ hf' hj e
    · exact b2 _ _ _ _ hf' hg' e
theorem ArI.arr {Z : State} {ty : FieldType} {vs : List Int32} {c : Cell} {h : Heap} {a : Addr} (B : ArI Z ty vs c) (hc : h[a]? = some c) : Arr Z h a c ty := ⟨hc, B.1, B.2.1⟩
theorem ArL.arr {Z : State} {vs : List Int64} {c : Cell} {h : Heap} {a : Addr} (B : ArL Z vs c) (hc : h[a]? = some c) : Arr Z h a c .long := ⟨hc, B.1, B.2.1⟩
theorem ArI.size {Z : State} {ty : FieldType} {vs : List Int32} {c : Cell} (B : ArI Z ty vs c) : c.slots.size = vs.length := by rw [B.2.2.1]; simp
theorem ArL.size {Z : State} {vs : List Int64} {c : Cell} (B : ArL Z vs c) : c.slots.size = vs.length := by rw [B.2.2.1]; simp
theorem ArI.put {Z : State} {ty : FieldType} {vs : List Int32} {c : Cell} (B : ArI Z ty vs c) (j : Nat) {x : Int32} (hx : fits ty (.int x) = true) : ArI Z ty (vs.set j x) (c.setSlot j (.int x)) := by
  refine ⟨B.1, B.2.1, ?_, by simpa using B.2.2.2.1, fun y hy => ?_⟩
  · show c.slots.setIfInBounds j (.int x) = _
    rw [B.2.2.1]; apply Array.ext'; simp [List.map_set]
  · rcases List.mem_or_eq_of_mem_set hy with h | rfl
    · exact B.2.2.2.2 y h
    · exact hx
theorem ArL.put {Z : State} {vs : List Int64} {c : Cell} (B : ArL Z vs c) (j : Nat) {x : Int64} : ArL Z (vs.set j x) (c.setSlot j (.long x)) := by
  refine ⟨B.1, B.2.1, ?_, by simpa using B.2.2.2⟩
  show c.slots.setIfInBounds j (.long x) = _
  rw [B.2.2.1]; apply Array.ext'; simp [List.map_set]
/-! OWN KIT 2: where a run stands, and how it ends -/
abbrev Cx : Type := Program × Launch × Env × Room × State × MethodId × Array Value × List Frame × Method × Code × (Option Value → Hp → Prop)
def Wk (Z : State) : Cx → State → Nat → Nat → Hp → Prop
  | (p, l, e, R, s, m, args, below, meth, c, _), T, cn, sn, M => ∃ locs, Stand p l e R s m args below meth c T locs cn sn ∧ Fr Z.heap.size locs ∧ Own Z T.heap M
def Ends (Z : State) : Cx → State → Nat → Array Slot → List Value → Prop
  | (p, l, e, R, s, m, args, below, meth, c, Q), T, pc, Ls, st => ∃ t o, Steps p.tables e below (T.setTop (mkF m pc Ls st)) t ∧ t.status = .running ∧ Ended t below o ∧ ∃ v L, o = .returned v ∧ (Fr Z.heap.size L ∧ ∃ M, Q v M ∧ Own Z t.heap M) ∧ FrameEnd s o t L R.cells R.slots
/-- from this frame, over such a heap, the run ends as Q says -/
def Go (Z : State) (k : Cx) (cn sn : Nat) (M : Hp) (pc : Nat) (Ls : Array Slot) (st : List Value) : Prop := ∀ T, Wk Z k T cn sn M → Ends Z k T pc Ls st
def Tb (Z : State) : Prop := ∃ a0, ∀ d ∈ tables_1, d.before a0 Z = true
def Ok (Z : State) (k : Cx) (R : Room) (Q : Option Value → Hp → Prop) (y : MethodName) (b : ByteArray) (ml : Nat) (rt : Option FieldType) : Prop :=
  match k with
  | (p, l, e, R', s, m, args, below, meth, c, Q') => p.tables.exec = Jvm.exec ∧ Z.Warmed39 s.vm ∧ c.code = b ∧ c.maxLocals = ml ∧ s.vm.findClass y.cls = some m.cls ∧ meth.name = y.name ∧ meth.sig.returnType = rt ∧ meth.locks = false ∧ Tb Z ∧ R' = R ∧ Q' = Q
theorem Ok.tb {Z : State} {k : Cx} {R : Room} {Q : Option Value → Hp → Prop} {y : MethodName} {b : ByteArray} {ml : Nat} {rt : Option FieldType} (H : Ok Z k R Q y b ml rt) : Tb Z := by
  obtain ⟨p, l, e, R', s, m, args, below, meth, c, Q'⟩ := k
  exact H.2.2.2.2.2.2.2.2.1
section Kit
variable {ty : FieldType} {Z : State} {k : Cx} {R : Room} {Q : Option Value → Hp → Prop} {y : MethodName} {b : ByteArray} {ml : Nat} {rt : Option FieldType} {cn sn : Nat} {M : Hp} {pc pc' : Nat} {Ls : Array Slot} {st : List Value}
theorem mem {i : Nat} {d : Jvm.Cond} (h : tables_1[i]? = some d) : d ∈ tables_1 := List.mem_of_getElem? h
theorem Go.more {cn' sn' : Nat} (hc : cn ≤ cn') (hs : sn ≤ sn') (g : Go Z k cn' sn' M pc Ls st) : Go Z k cn sn M pc Ls st := by
  obtain ⟨p, l, e, R, s, m, args, below, meth, c, Q⟩ := k
  intro T w
  obtain ⟨locs, X, F, O⟩ := w
  exact g T ⟨locs, X.more hc hs, F, O⟩
theorem Go.perm {M' : Hp} (p : M.Perm M') (g : Go Z k cn sn M' pc Ls st) : Go Z k cn sn M pc Ls st := by
  obtain ⟨p', l, e, R, s, m, args, below, meth, c, Q⟩ := k
  intro T w
  obtain ⟨locs, X, F, O⟩ := w
  exact g T ⟨locs, X, F, O.perm p⟩
theorem Go.fact {φ : Prop} (f : ∀ h, Own Z h M → φ) (g : φ → Go Z k cn sn M pc Ls st) : Go Z k cn sn M pc Ls st := by
  obtain ⟨p', l, e, R, s, m, args, below, meth, c, Q⟩ := k
  intro T w
  have w' := w
  obtain ⟨locs, X, F, O⟩ := w
  exact g (f _ O) T w'
theorem Go.cast {pc2 : Nat} {Ls2 : Array Slot} {st2 : List Value} {M2 : Hp} (h1 : pc = pc2) (h2 : Ls = Ls2) (h3 : st = st2) (h4 : M = M2) (g : Go Z k cn sn M2 pc2 Ls2 st2) : Go Z k cn sn M pc Ls st := by
  subst h1 h2 h3 h4; exact g
theorem s_iloadn (H : Ok Z k R Q y b ml rt) {i : Fin 4} {z : Int32} (hd : decode b pc = .ok (.iload_n i, 1)) (hl : Ls[i.val]? = some (.val (.int z))) (hp : pc + 1 = pc') (g : Go Z k cn sn M pc' Ls (.int z :: st)) : Go Z k cn sn M pc Ls (st) := by
  obtain ⟨p, l, e, R', s, m, args, below, meth, c, Q'⟩ := k
  obtain ⟨hx, hZ, hby, -⟩ := H
  subst hp
  intro T w
  have w' := w
  obtain ⟨locs, X, F, O⟩ := w
  obtain ⟨t, o, hs, r⟩ := g T w'
  exact ⟨t, o, XS.iloadN X.here hx rfl (hb hby hd) hl hs, r⟩
theorem s_iload (H : Ok Z k R Q y b ml rt) {i : Nat} {z : Int32} (hd : decode b pc = .ok (.iload i, 2)) (hl : Ls[i]? = some (.val (.int z))) (hp : pc + 2 = pc') (g : Go Z k cn sn M pc' Ls (.int z :: st)) : Go Z k cn sn M pc Ls (st) := by
  obtain ⟨p, l, e, R', s, m, args, below, meth, c, Q'⟩ := k
  obtain ⟨hx, hZ, hby, -⟩ := H
  subst hp
  intro T w
  have w' := w
  obtain ⟨locs, X, F, O⟩ := w
  obtain ⟨t, o, hs, r⟩ := g T w'
  exact ⟨t, o, XS.iload X.here hx rfl (hb hby hd) hl hs, r⟩
theorem s_istoren (H : Ok Z k R Q y b ml rt) {i : Fin 4} {x : Int32} {L' : Int32 → Array Slot} (hd : decode b pc = .ok (.istore_n i, 1)) (hl : ∀ z, storeLocals Ls i.val (.int z) = some (L' z)) (hp : pc + 1 = pc') (g : ∀ z, z = x → Go Z k cn sn M pc' (L' z) st) : Go Z k cn sn M pc Ls (.int x :: st) := by
  obtain ⟨p, l, e, R', s, m, args, below, meth, c, Q'⟩ := k
  obtain ⟨hx, hZ, hby, -⟩ := H
  subst hp
  intro T w
  have w' := w
  obtain ⟨locs, X, F, O⟩ := w
  obtain ⟨t, o, hs, r⟩ := g x rfl T w'
  exact ⟨t, o, XS.istoreN X.here hx rfl (hb hby hd) rfl (hl x) hs, r⟩
theorem s_istore (H : Ok Z k R Q y b ml rt) {i : Nat} {x : Int32} {L' : Int32 → Array Slot} (hd : decode b pc = .ok (.istore i, 2)) (hl : ∀ z, storeLocals Ls i (.int z) = some (L' z)) (hp : pc + 2 = pc') (g : ∀ z, z = x → Go Z k cn sn M pc' (L' z) st) : Go Z k cn sn M pc Ls (.int x :: st) := by
  obtain ⟨p, l, e, R', s, m, args, below, meth, c, Q'⟩ := k
  obtain ⟨hx, hZ, hby, -⟩ := H
  subst hp
  intro T w
  have w' := w
  obtain ⟨locs, X, F, O⟩ := w
  obtain ⟨t, o, hs, r⟩ := g x rfl T w'
  exact ⟨t, o, XS.istore X.here hx rfl (hb hby hd) rfl (hl x) hs, r⟩
theorem s_lloadn (H : Ok Z k R Q y b ml rt) {i : Fin 4} {z : Int64} (hd : decode b pc = .ok (.lload_n i, 1)) (hl : Ls[i.val]? = some (.val (.long z))) (hp : pc + 1 = pc') (g : Go Z k cn sn M pc' Ls (.long z :: st)) : Go Z k cn sn M pc Ls (st) := by
  obtain ⟨p, l, e, R', s, m, args, below, meth, c, Q'⟩ := k
  obtain ⟨hx, hZ, hby, -⟩ := H
  subst hp
  intro T w
  have w' := w
  obtain ⟨locs, X, F, O⟩ := w
  obtain ⟨t, o, hs, r⟩ := g T w'
  exact ⟨t, o, XS.lloadN X.here hx rfl (hb hby hd) hl hs, r⟩
theorem s_lload (H : Ok Z k R Q y b ml rt) {i : Nat} {z : Int64} (hd : decode b pc = .ok (.lload i, 2)) (hl : Ls[i]? = some (.val (.long z))) (hp : pc + 2 = pc') (g : Go Z k cn sn M pc' Ls (.long z :: st)) : Go Z k cn sn M pc Ls (st) := by
  obtain ⟨p, l, e, R', s, m, args, below, meth, c, Q'⟩ := k
  obtain ⟨hx, hZ, hby, -⟩ := H
  subst hp
  intro T w
  have w' := w
  obtain ⟨locs, X, F, O⟩ := w
  obtain ⟨t, o, hs, r⟩ := g T w'
  exact ⟨t, o, XS.lload X.here hx rfl (hb hby hd) hl hs, r⟩
theorem s_lstoren (H : Ok Z k R Q y b ml rt) {i : Fin 4} {x : Int64} {L' : Int64 → Array Slot} (hd : decode b pc = .ok (.lstore_n i, 1)) (hl : ∀ z, storeLocals Ls i.val (.long z) = some (L' z)) (hp : pc + 1 = pc') (g : ∀ z, z = x → Go Z k cn sn M pc' (L' z) st) : Go Z k cn sn M pc Ls (.long x :: st) := by
  obtain ⟨p, l, e, R', s, m, args, below, meth, c, Q'⟩ := k
  obtain ⟨hx, hZ, hby, -⟩ := H
  subst hp
  intro T w
  have w' := w
  obtain ⟨locs, X, F, O⟩ := w
  obtain ⟨t, o, hs, r⟩ := g x rfl T w'
  exact ⟨t, o, XS.lstoreN X.here hx rfl (hb hby hd) rfl (hl x) hs, r⟩
theorem s_lstore (H : Ok Z k R Q y b ml rt) {i : Nat} {x : Int64} {L' : Int64 → Array Slot} (hd : decode b pc = .ok (.lstore i, 2)) (hl : ∀ z, storeLocals Ls i (.long z) = some (L' z)) (hp : pc + 2 = pc') (g : ∀ z, z = x → Go Z k cn sn M pc' (L' z) st) : Go Z k cn sn M pc Ls (.long x :: st) := by
  obtain ⟨p, l, e, R', s, m, args, below, meth, c, Q'⟩ := k
  obtain ⟨hx, hZ, hby, -⟩ := H
  subst hp
  intro T w
  have w' := w
  obtain ⟨locs, X, F, O⟩ := w
  obtain ⟨t, o, hs, r⟩ := g x rfl T w'
  exact ⟨t, o, XS.lstore X.here hx rfl (hb hby hd) rfl (hl x) hs, r⟩
theorem s_aloadn (H : Ok Z k R Q y b ml rt) {i : Fin 4} {v : Value} (hd : decode b pc = .ok (.aload_n i, 1)) (hl : Ls[i.val]? = some (.val v)) (hv : v.isRef = true) (hp : pc + 1 = pc') (g : Go Z k cn sn M pc' Ls (v :: st)) : Go Z k cn sn M pc Ls (st) := by
  obtain ⟨p, l, e, R', s, m, args, below, meth, c, Q'⟩ := k
  obtain ⟨hx, hZ, hby, -⟩ := H
  subst hp
  intro T w
  have w' := w
  obtain ⟨locs, X, F, O⟩ := w
  obtain ⟨t, o, hs, r⟩ := g T w'
  exact ⟨t, o, XS.aloadN X.here hx rfl (hb hby hd) hl hv hs, r⟩
theorem s_aload (H : Ok Z k R Q y b ml rt) {i : Nat} {v : Value} (hd : decode b pc = .ok (.aload i, 2)) (hl : Ls[i]? = some (.val v)) (hv : v.isRef = true) (hp : pc + 2 = pc') (g : Go Z k cn sn M pc' Ls (v :: st)) : Go Z k cn sn M pc Ls (st) := by
  obtain ⟨p, l, e, R', s, m, args, below, meth, c, Q'⟩ := k
  obtain ⟨hx, hZ, hby, -⟩ := H
  subst hp
  intro T w
  have w' := w
  obtain ⟨locs, X, F, O⟩ := w
  obtain ⟨t, o, hs, r⟩ := g T w'
  exact ⟨t, o, XS.aload X.here hx rfl (hb hby hd) hl hv hs, r⟩
theorem s_astoren (H : Ok Z k R Q y b ml rt) {i : Fin 4} {v : Value} {L' : Array Slot} (hd : decode b pc = .ok (.astore_n i, 1)) (hv : v.isRef = true) (hl : storeLocals Ls i.val v = some L') (hp : pc + 1 = pc') (g : Go Z k cn sn M pc' L' (st)) : Go Z k cn sn M pc Ls (v :: st) := by
  obtain ⟨p, l, e, R', s, m, args, below, meth, c, Q'⟩ := k
  obtain ⟨hx, hZ, hby, -⟩ := H
  subst hp
  intro T w
  have w' := w
  obtain ⟨locs, X, F, O⟩ := w
  obtain ⟨t, o, hs, r⟩ := g T w'
  exact ⟨t, o, XS.astoreN X.here hx rfl (hb hby hd) rfl hv hl hs, r⟩
theorem s_astore (H : Ok Z k R Q y b ml rt) {i : Nat} {v : Value} {L' : Array Slot} (hd : decode b pc = .ok (.astore i, 2)) (hv : v.isRef = true) (hl : storeLocals Ls i v = some L') (hp : pc + 2 = pc') (g : Go Z k cn sn M pc' L' (st)) : Go Z k cn sn M pc Ls (v :: st) := by
  obtain ⟨p, l, e, R', s, m, args, below, meth, c, Q'⟩ := k
  obtain ⟨hx, hZ, hby, -⟩ := H
  subst hp
  intro T w
  have w' := w
  obtain ⟨locs, X, F, O⟩ := w
  obtain ⟨t, o, hs, r⟩ := g T w'
  exact ⟨t, o, XS.astore X.here hx rfl (hb hby hd) rfl hv hl hs, r⟩
theorem s_iconst (H : Ok Z k R Q y b ml rt) {i : Int} {z : Int32} (hd : decode b pc = .ok (.iconst i, 1)) (hz : z = Int32.ofInt i) (hp : pc + 1 = pc') (g : Go Z k cn sn M pc' Ls (.int z :: st)) : Go Z k cn sn M pc Ls (st) := by
  obtain ⟨p, l, e, R', s, m, args, below, meth, c, Q'⟩ := k
  obtain ⟨hx, hZ, hby, -⟩ := H
  subst hp
  intro T w
  have w' := w
  obtain ⟨locs, X, F, O⟩ := w
  obtain ⟨t, o, hs, r⟩ := g T w'
  exact ⟨t, o, XS.iconst X.here hx rfl (hb hby hd) (hz ▸ hs), r⟩
theorem s_bipush (H : Ok Z k R Q y b ml rt) {i : Int} {z : Int32} (hd : decode b pc = .ok (.bipush i, 2)) (hz : z = (Int8.ofInt i).toInt32) (hp : pc + 2 = pc') (g : Go Z k cn sn M pc' Ls (.int z :: st)) : Go Z k cn sn M pc Ls (st) := by
  obtain ⟨p, l, e, R', s, m, args, below, meth, c, Q'⟩ := k
  obtain ⟨hx, hZ, hby, -⟩ := H
  subst hp
  intro T w
  have w' := w
  obtain ⟨locs, X, F, O⟩ := w
  obtain ⟨t, o, hs, r⟩ := g T w'
  exact ⟨t, o, XS.bipush X.here hx rfl (hb hby hd) (hz ▸ hs), r⟩
theorem s_sipush (H : Ok Z k R Q y b ml rt) {i : Int} {z : Int32} (hd : decode b pc = .ok (.sipush i, 3)) (hz : z = (Int16.ofInt i).toInt32) (hp : pc + 3 = pc') (g : Go Z k cn sn M pc' Ls (.int z :: st)) : Go Z k cn sn M pc Ls (st) := by
  obtain ⟨p, l, e, R', s, m, args, below, meth, c, Q'⟩ := k
  obtain ⟨hx, hZ, hby, -⟩ := H
  subst hp
  intro T w
  have w' := w
  obtain ⟨locs, X, F, O⟩ := w
  obtain ⟨t, o, hs, r⟩ := g T w'
  exact ⟨t, o, XS.sipush X.here hx rfl (hb hby hd) (hz ▸ hs), r⟩
theorem s_lconst (H : Ok Z k R Q y b ml rt) {i : Fin 2} {z : Int64} (hd : decode b pc = .ok (.lconst i, 1)) (hz : z = Int64.ofNat i) (hp : pc + 1 = pc') (g : Go Z k cn sn M pc' Ls (.long z :: st)) : Go Z k cn sn M pc Ls (st) := by
  obtain ⟨p, l, e, R', s, m, args, below, meth, c, Q'⟩ := k
  obtain ⟨hx, hZ, hby, -⟩ := H
  subst hp
  intro T w
  have w' := w
  obtain ⟨locs, X, F, O⟩ := w
  obtain ⟨t, o, hs, r⟩ := g T w'
  exact ⟨t, o, XS.lconst X.here hx rfl (hb hby hd) (hz ▸ hs), r⟩
theorem s_anull (H : Ok Z k R Q y b ml rt) (hd : decode b pc = .ok (.aconst_null, 1)) (hp : pc + 1 = pc') (g : Go Z k cn sn M pc' Ls (.null :: st)) : Go Z k cn sn M pc Ls (st) := by
  obtain ⟨p, l, e, R', s, m, args, below, meth, c, Q'⟩ := k
  obtain ⟨hx, hZ, hby, -⟩ := H
  subst hp
  intro T w
  have w' := w
  obtain ⟨locs, X, F, O⟩ := w
  obtain ⟨t, o, hs, r⟩ := g T w'
  exact ⟨t, o, XS.aconstNull X.here hx rfl (hb hby hd) hs, r⟩
theorem s_iadd (H : Ok Z k R Q y b ml rt) {x u : Int32} (hd : decode b pc = .ok (.iadd, 1)) (hp : pc + 1 = pc') (g : Go Z k cn sn M pc' Ls (.int (x + u) :: st)) : Go Z k cn sn M pc Ls (.int u :: .int x :: st) := by
  obtain ⟨p, l, e, R', s, m, args, below, meth, c, Q'⟩ := k
  obtain ⟨hx, hZ, hby, -⟩ := H
  subst hp
  intro T w
  have w' := w
  obtain ⟨locs, X, F, O⟩ := w
  obtain ⟨t, o, hs, r⟩ := g T w'
  exact ⟨t, o, XS.iadd X.here hx rfl (hb hby hd) rfl hs, r⟩
theorem s_isub (H : Ok Z k R Q y b ml rt) {x u : Int32} (hd : decode b pc = .ok (.isub, 1)) (hp : pc + 1 = pc') (g : Go Z k cn sn M pc' Ls (.int (x - u) :: st)) : Go Z k cn sn M pc Ls (.int u :: .int x :: st) := by
  obtain ⟨p, l, e, R', s, m, args, below, meth, c, Q'⟩ := k
  obtain ⟨hx, hZ, hby, -⟩ := H
  subst hp
  intro T w
  have w' := w
  obtain ⟨locs, X, F, O⟩ := w
  obtain ⟨t, o, hs, r⟩ := g T w'
  exact ⟨t, o, XS.isub X.here hx rfl (hb hby hd) rfl hs, r⟩
theorem s_imul (H : Ok Z k R Q y b ml rt) {x u : Int32} (hd : decode b pc = .ok (.imul, 1)) (hp : pc + 1 = pc') (g : Go Z k cn sn M pc' Ls (.int (x * u) :: st)) : Go Z k cn sn M pc Ls (.int u :: .int x :: st) := by
  obtain ⟨p, l, e, R', s, m, args, below, meth, c, Q'⟩ := k
  obtain ⟨hx, hZ, hby, -⟩ := H
  subst hp
  intro T w
  have w' := w
  obtain ⟨locs, X, F, O⟩ := w
  obtain ⟨t, o, hs, r⟩ := g T w'
  exact ⟨t, o, XS.imul X.here hx rfl (hb hby hd) rfl hs, r⟩
theorem s_iand (H : Ok Z k R Q y b ml rt) {x u : Int32} (hd : decode b pc = .ok (.iand, 1)) (hp : pc + 1 = pc') (g : Go Z k cn sn M pc' Ls (.int (x &&& u) :: st)) : Go Z k cn sn M pc Ls (.int u :: .int x :: st) := by
  obtain ⟨p, l, e, R', s, m, args, below, meth, c, Q'⟩ := k
  obtain ⟨hx, hZ, hby, -⟩ := H
  subst hp
  intro T w
  have w' := w
  obtain ⟨locs, X, F, O⟩ := w
  obtain ⟨t, o, hs, r⟩ := g T w'
  exact ⟨t, o, XS.iand X.here hx rfl (hb hby hd) rfl hs, r⟩
theorem s_ior (H : Ok Z k R Q y b ml rt) {x u : Int32} (hd : decode b pc = .ok (.ior, 1)) (hp : pc + 1 = pc') (g : Go Z k cn sn M pc' Ls (.int (x ||| u) :: st)) : Go Z k cn sn M pc Ls (.int u :: .int x :: st) := by
  obtain ⟨p, l, e, R', s, m, args, below, meth, c, Q'⟩ := k
  obtain ⟨hx, hZ, hby, -⟩ := H
  subst hp
  intro T w
  have w' := w
  obtain ⟨locs, X, F, O⟩ := w
  obtain ⟨t, o, hs, r⟩ := g T w'
  exact ⟨t, o, XS.ior X.here hx rfl (hb hby hd) rfl hs, r⟩
theorem s_ixor (H : Ok Z k R Q y b ml rt) {x u : Int32} (hd : decode b pc = .ok (.ixor, 1)) (hp : pc + 1 = pc') (g : Go Z k cn sn M pc' Ls (.int (x ^^^ u) :: st)) : Go Z k cn sn M pc Ls (.int u :: .int x :: st) := by
  obtain ⟨p, l, e, R', s, m, args, below, meth, c, Q'⟩ := k
  obtain ⟨hx, hZ, hby, -⟩ := H
  subst hp
  intro T w
  have w' := w
  obtain ⟨locs, X, F, O⟩ := w
  obtain ⟨t, o, hs, r⟩ := g T w'
  exact ⟨t, o, XS.ixor X.here hx rfl (hb hby hd) rfl hs, r⟩
theorem s_idiv (H : Ok Z k R Q y b ml rt) {x u : Int32} (hd : decode b pc = .ok (.idiv, 1)) (hu : u ≠ 0) (hp : pc + 1 = pc') (g : Go Z k cn sn M pc' Ls (.int (x / u) :: st)) : Go Z k cn sn M pc Ls (.int u :: .int x :: st) := by
  obtain ⟨p, l, e, R', s, m, args, below, meth, c, Q'⟩ := k
  obtain ⟨hx, hZ, hby, -⟩ := H
  subst hp
  intro T w
  have w' := w
  obtain ⟨locs, X, F, O⟩ := w
  obtain ⟨t, o, hs, r⟩ := g T w'
  exact ⟨t, o, XS.idiv X.here hx rfl (hb hby hd) rfl hu hs, r⟩
theorem s_ineg (H : Ok Z k R Q y b ml rt) {x : Int32} (hd : decode b pc = .ok (.ineg, 1)) (hp : pc + 1 = pc') (g : Go Z k cn sn M pc' Ls (.int (-x) :: st)) : Go Z k cn sn M pc Ls (.int x :: st) := by
  obtain ⟨p, l, e, R', s, m, args, below, meth, c, Q'⟩ := k
  obtain ⟨hx, hZ, hby, -⟩ := H
  subst hp
  intro T w
  have w' := w
  obtain ⟨locs, X, F, O⟩ := w
  obtain ⟨t, o, hs, r⟩ := g T w'
  exact ⟨t, o, XS.ineg X.here hx rfl (hb hby hd) rfl hs, r⟩
theorem s_ladd (H : Ok Z k R Q y b ml rt) {x u : Int64} (hd : decode b pc = .ok (.ladd, 1)) (hp : pc + 1 = pc') (g : Go Z k cn sn M pc' Ls (.long (x + u) :: st)) : Go Z k cn sn M pc Ls (.long u :: .long x :: st) := by
  obtain ⟨p, l, e, R', s, m, args, below, meth, c, Q'⟩ := k
  obtain ⟨hx, hZ, hby, -⟩ := H
  subst hp
  intro T w
  have w' := w
  obtain ⟨locs, X, F, O⟩ := w
  obtain ⟨t, o, hs, r⟩ := g T w'
  exact ⟨t, o, XS.ladd X.here hx rfl (hb hby hd) rfl hs, r⟩
theorem s_lsub (H : Ok Z k R Q y b ml rt) {x u : Int64} (hd : decode b pc = .ok (.lsub, 1)) (hp : pc + 1 = pc') (g : Go Z k cn sn M pc' Ls (.long (x - u) :: st)) : Go Z k cn sn M pc Ls (.long u :: .long x :: st) := by
  obtain ⟨p, l, e, R', s, m, args, below, meth, c, Q'⟩ := k
  obtain ⟨hx, hZ, hby, -⟩ := H
  subst hp
  intro T w
  have w' := w
  obtain ⟨locs, X, F, O⟩ := w
  obtain ⟨t, o, hs, r⟩ := g T w'
  exact ⟨t, o, XS.lsub X.here hx rfl (hb hby hd) rfl hs, r⟩
theorem s_lmul (H : Ok Z k R Q y b ml rt) {x u : Int64} (hd : decode b pc = .ok (.lmul, 1)) (hp : pc + 1 = pc') (g : Go Z k cn sn M pc' Ls (.long (x * u) :: st)) : Go Z k cn sn M pc Ls (.long u :: .long x :: st) := by
  obtain ⟨p, l, e, R', s, m, args, below, meth, c, Q'⟩ := k
  obtain ⟨hx, hZ, hby, -⟩ := H
  subst hp
  intro T w
  have w' := w
  obtain ⟨locs, X, F, O⟩ := w
  obtain ⟨t, o, hs, r⟩ := g T w'
  exact ⟨t, o, XS.lmul X.here hx rfl (hb hby hd) rfl hs, r⟩
theorem s_land (H : Ok Z k R Q y b ml rt) {x u : Int64} (hd : decode b pc = .ok (.land, 1)) (hp : pc + 1 = pc') (g : Go Z k cn sn M pc' Ls (.long (x &&& u) :: st)) : Go Z k cn sn M pc Ls (.long u :: .long x :: st) := by
  obtain ⟨p, l, e, R', s, m, args, below, meth, c, Q'⟩ := k
  obtain ⟨hx, hZ, hby, -⟩ := H
  subst hp
  intro T w
  have w' := w
  obtain ⟨locs, X, F, O⟩ := w
  obtain ⟨t, o, hs, r⟩ := g T w'
  exact ⟨t, o, XS.land X.here hx rfl (hb hby hd) rfl hs, r⟩
theorem s_lor (H : Ok Z k R Q y b ml rt) {x u : Int64} (hd : decode b pc = .ok (.lor, 1)) (hp : pc + 1 = pc') (g : Go Z k cn sn M pc' Ls (.long (x ||| u) :: st)) : Go Z k cn sn M pc Ls (.long u :: .long x :: st) := by
  obtain ⟨p, l, e, R', s, m, args, below, meth, c, Q'⟩ := k
  obtain ⟨hx, hZ, hby, -⟩ := H
  subst hp
  intro T w
  have w' := w
  obtain ⟨locs, X, F, O⟩ := w
  obtain ⟨t, o, hs, r⟩ := g T w'
  exact ⟨t, o, XS.lor X.here hx rfl (hb hby hd) rfl hs, r⟩
theorem s_lxor (H : Ok Z k R Q y b ml rt) {x u : Int64} (hd : decode b pc = .ok (.lxor, 1)) (hp : pc + 1 = pc') (g : Go Z k cn sn M pc' Ls (.long (x ^^^ u) :: st)) : Go Z k cn sn M pc Ls (.long u :: .long x :: st) := by
  obtain ⟨p, l, e, R', s, m, args, below, meth, c, Q'⟩ := k
  obtain ⟨hx, hZ, hby, -⟩ := H
  subst hp
  intro T w
  have w' := w
  obtain ⟨locs, X, F, O⟩ := w
  obtain ⟨t, o, hs, r⟩ := g T w'
  exact ⟨t, o, XS.lxor X.here hx rfl (hb hby hd) rfl hs, r⟩
theorem s_ldiv (H : Ok Z k R Q y b ml rt) {x u : Int64} (hd : decode b pc = .ok (.ldiv, 1)) (hu : u ≠ 0) (hp : pc + 1 = pc') (g : Go Z k cn sn M pc' Ls (.long (x / u) :: st)) : Go Z k cn sn M pc Ls (.long u :: .long x :: st) := by
  obtain ⟨p, l, e, R', s, m, args, below, meth, c, Q'⟩ := k
  obtain ⟨hx, hZ, hby, -⟩ := H
  subst hp
  intro T w
  have w' := w
  obtain ⟨locs, X, F, O⟩ := w
  obtain ⟨t, o, hs, r⟩ := g T w'
  exact ⟨t, o, XS.ldiv X.here hx rfl (hb hby hd) rfl hu hs, r⟩
theorem s_lneg (H : Ok Z k R Q y b ml rt) {x : Int64} (hd : decode b pc = .ok (.lneg, 1)) (hp : pc + 1 = pc') (g : Go Z k cn sn M pc' Ls (.long (-x) :: st)) : Go Z k cn sn M pc Ls (.long x :: st) := by
  obtain ⟨p, l, e, R', s, m, args, below, meth, c, Q'⟩ := k
  obtain ⟨hx, hZ, hby, -⟩ := H
  subst hp
  intro T w
  have w' := w
  obtain ⟨locs, X, F, O⟩ := w
  obtain ⟨t, o, hs, r⟩ := g T w'
  exact ⟨t, o, XS.lneg X.here hx rfl (hb hby hd) rfl hs, r⟩
theorem s_irem (H : Ok Z k R Q y b ml rt) {x u : Int32} (hd : decode b pc = .ok (.irem, 1)) (hu : u ≠ 0) (hp : pc + 1 = pc') (g : Go Z k cn sn M pc' Ls (.int (x % u) :: st)) : Go Z k cn sn M pc Ls (.int u :: .int x :: st) := by
  obtain ⟨p, l, e, R', s, m, args, below, meth, c, Q'⟩ := k
  obtain ⟨hx, hZ, hby, -⟩ := H
  subst hp
  intro T w
  have w' := w
  obtain ⟨locs, X, F, O⟩ := w
  obtain ⟨t, o, hs, r⟩ := g T w'
  exact ⟨t, o, iremM X hx rfl (hb hby hd) rfl hu hs, r⟩
theorem s_lrem (H : Ok Z k R Q y b ml rt) {x u : Int64} (hd : decode b pc = .ok (.lrem, 1)) (hu : u ≠ 0) (hp : pc + 1 = pc') (g : Go Z k cn sn M pc' Ls (.long (x % u) :: st)) : Go Z k cn sn M pc Ls (.long u :: .long x :: st) := by
  obtain ⟨p, l, e, R', s, m, args, below, meth, c, Q'⟩ := k
  obtain ⟨hx, hZ, hby, -⟩ := H
  subst hp
  intro T w
  have w' := w
  obtain ⟨locs, X, F, O⟩ := w
  obtain ⟨t, o, hs, r⟩ := g T w'
  exact ⟨t, o, XS.lrem X.here hx rfl (hb hby hd) rfl hu (lrem_mod x u ▸ hs), r⟩
theorem s_ishl (H : Ok Z k R Q y b ml rt) {x u : Int32} (hd : decode b pc = .ok (.ishl, 1)) (hp : pc + 1 = pc') (g : Go Z k cn sn M pc' Ls (.int (x <<< (u &&& 31)) :: st)) : Go Z k cn sn M pc Ls (.int u :: .int x :: st) := by
  obtain ⟨p, l, e, R', s, m, args, below, meth, c, Q'⟩ := k
  obtain ⟨hx, hZ, hby, -⟩ := H
  subst hp
  intro T w
  have w' := w
  obtain ⟨locs, X, F, O⟩ := w
  obtain ⟨t, o, hs, r⟩ := g T w'
  exact ⟨t, o, XS.ishl X.here hx rfl (hb hby hd) rfl hs, r⟩
theorem s_ishr (H : Ok Z k R Q y b ml rt) {x u : Int32} (hd : decode b pc = .ok (.ishr, 1)) (hp : pc + 1 = pc') (g : Go Z k cn sn M pc' Ls (.int (x >>> (u &&& 31)) :: st)) : Go Z k cn sn M pc Ls (.int u :: .int x :: st) := by
  obtain ⟨p, l, e, R', s, m, args, below, meth, c, Q'⟩ := k
  obtain ⟨hx, hZ, hby, -⟩ := H
  subst hp
  intro T w
  have w' := w
  obtain ⟨locs, X, F, O⟩ := w
  obtain ⟨t, o, hs, r⟩ := g T w'
  exact ⟨t, o, XS.ishr X.here hx rfl (hb hby hd) rfl hs, r⟩
theorem s_iushr (H : Ok Z k R Q y b ml rt) {x u : Int32} (hd : decode b pc = .ok (.iushr, 1)) (hp : pc + 1 = pc') (g : Go Z k cn sn M pc' Ls (.int ((x.toUInt32 >>> (u &&& 31).toUInt32).toInt32) :: st)) : Go Z k cn sn M pc Ls (.int u :: .int x :: st) := by
  obtain ⟨p, l, e, R', s, m, args, below, meth, c, Q'⟩ := k
  obtain ⟨hx, hZ, hby, -⟩ := H
  subst hp
  intro T w
  have w' := w
  obtain ⟨locs, X, F, O⟩ := w
  obtain ⟨t, o, hs, r⟩ := g T w'
  exact ⟨t, o, XS.iushr X.here hx rfl (hb hby hd) rfl hs, r⟩
theorem s_lshl (H : Ok Z k R Q y b ml rt) {x : Int64} {u : Int32} (hd : decode b pc = .ok (.lshl, 1)) (hp : pc + 1 = pc') (g : Go Z k cn sn M pc' Ls (.long (x <<< (u &&& 0x3f).toInt64) :: st)) : Go Z k cn sn M pc Ls (.int u :: .long x :: st) := by
  obtain ⟨p, l, e, R', s, m, args, below, meth, c, Q'⟩ := k
  obtain ⟨hx, hZ, hby, -⟩ := H
  subst hp
  intro T w
  have w' := w
  obtain ⟨locs, X, F, O⟩ := w
  obtain ⟨t, o, hs, r⟩ := g T w'
  exact ⟨t, o, XS.lshl X.here hx rfl (hb hby hd) rfl hs, r⟩
theorem s_lshr (H : Ok Z k R Q y b ml rt) {x : Int64} {u : Int32} (hd : decode b pc = .ok (.lshr, 1)) (hp : pc + 1 = pc') (g : Go Z k cn sn M pc' Ls (.long (x >>> (u &&& 0x3f).toInt64) :: st)) : Go Z k cn sn M pc Ls (.int u :: .long x :: st) := by
  obtain ⟨p, l, e, R', s, m, args, below, meth, c, Q'⟩ := k
  obtain ⟨hx, hZ, hby, -⟩ := H
  subst hp
  intro T w
  have w' := w
  obtain ⟨locs, X, F, O⟩ := w
  obtain ⟨t, o, hs, r⟩ := g T w'
  exact ⟨t, o, XS.lshr X.here hx rfl (hb hby hd) rfl hs, r⟩
theorem s_lushr (H : Ok Z k R Q y b ml rt) {x : Int64} {u : Int32} (hd : decode b pc = .ok (.lushr, 1)) (hp : pc + 1 = pc') (g : Go Z k cn sn M pc' Ls (.long ((x.toUInt64 >>> (u &&& 0x3f).toInt64.toUInt64).toInt64) :: st)) : Go Z k cn sn M pc Ls (.int u :: .long x :: st) := by
  obtain ⟨p, l, e, R', s, m, args, below, meth, c, Q'⟩ := k
  obtain ⟨hx, hZ, hby, -⟩ := H
  subst hp
  intro T w
  have w' := w
  obtain ⟨locs, X, F, O⟩ := w
  obtain ⟨t, o, hs, r⟩ := g T w'
  exact ⟨t, o, XS.lushr X.here hx rfl (hb hby hd) rfl hs, r⟩
theorem s_i2l (H : Ok Z k R Q y b ml rt) {x : Int32} (hd : decode b pc = .ok (.i2l, 1)) (hp : pc + 1 = pc') (g : Go Z k cn sn M pc' Ls (.long (x.toInt64) :: st)) : Go Z k cn sn M pc Ls (.int x :: st) := by
  obtain ⟨p, l, e, R', s, m, args, below, meth, c, Q'⟩ := k
  obtain ⟨hx, hZ, hby, -⟩ := H
  subst hp
  intro T w
  have w' := w
  obtain ⟨locs, X, F, O⟩ := w
  obtain ⟨t, o, hs, r⟩ := g T w'
  exact ⟨t, o, XS.i2l X.here hx rfl (hb hby hd) rfl hs, r⟩
theorem s_l2i (H : Ok Z k R Q y b ml rt) {x : Int64} (hd : decode b pc = .ok (.l2i, 1)) (hp : pc + 1 = pc') (g : Go Z k cn sn M pc' Ls (.int (x.toInt32) :: st)) : Go Z k cn sn M pc Ls (.long x :: st) := by
  obtain ⟨p, l, e, R', s, m, args, below, meth, c, Q'⟩ := k
  obtain ⟨hx, hZ, hby, -⟩ := H
  subst hp
  intro T w
  have w' := w
  obtain ⟨locs, X, F, O⟩ := w
  obtain ⟨t, o, hs, r⟩ := g T w'
  exact ⟨t, o, XS.l2i X.here hx rfl (hb hby hd) rfl hs, r⟩
theorem s_i2b (H : Ok Z k R Q y b ml rt) {x : Int32} (hd : decode b pc = .ok (.i2b, 1)) (hp : pc + 1 = pc') (g : Go Z k cn sn M pc' Ls (.int (x.toInt8.toInt32) :: st)) : Go Z k cn sn M pc Ls (.int x :: st) := by
  obtain ⟨p, l, e, R', s, m, args, below, meth, c, Q'⟩ := k
  obtain ⟨hx, hZ, hby, -⟩ := H
  subst hp
  intro T w
  have w' := w
  obtain ⟨locs, X, F, O⟩ := w
  obtain ⟨t, o, hs, r⟩ := g T w'
  exact ⟨t, o, XS.i2b X.here hx rfl (hb hby hd) rfl hs, r⟩
theorem s_i2c (H : Ok Z k R Q y b ml rt) {x : Int32} (hd : decode b pc = .ok (.i2c, 1)) (hp : pc + 1 = pc') (g : Go Z k cn sn M pc' Ls (.int (x.toUInt32.toUInt16.toUInt32.toInt32) :: st)) : Go Z k cn sn M pc Ls (.int x :: st) := by
  obtain ⟨p, l, e, R', s, m, args, below, meth, c, Q'⟩ := k
  obtain ⟨hx, hZ, hby, -⟩ := H
  subst hp
  intro T w
  have w' := w
  obtain ⟨locs, X, F, O⟩ := w
  obtain ⟨t, o, hs, r⟩ := g T w'
  exact ⟨t, o, XS.i2c X.here hx rfl (hb hby hd) rfl hs, r⟩
theorem s_i2s (H : Ok Z k R Q y b ml rt) {x : Int32} (hd : decode b pc = .ok (.i2s, 1)) (hp : pc + 1 = pc') (g : Go Z k cn sn M pc' Ls (.int (x.toInt16.toInt32) :: st)) : Go Z k cn sn M pc Ls (.int x :: st) := by
  obtain ⟨p, l, e, R', s, m, args, below, meth, c, Q'⟩ := k
  obtain ⟨hx, hZ, hby, -⟩ := H
  subst hp
  intro T w
  have w' := w
  obtain ⟨locs, X, F, O⟩ := w
  obtain ⟨t, o, hs, r⟩ := g T w'
  exact ⟨t, o, XS.i2s X.here hx rfl (hb hby hd) rfl hs, r⟩
theorem s_lcmp (H : Ok Z k R Q y b ml rt) {x u : Int64} (hd : decode b pc = .ok (.lcmp, 1)) (hp : pc + 1 = pc') (g : Go Z k cn sn M pc' Ls (.int (lcmpW x u) :: st)) : Go Z k cn sn M pc Ls (.long u :: .long x :: st) := by
  obtain ⟨p, l, e, R', s, m, args, below, meth, c, Q'⟩ := k
  obtain ⟨hx, hZ, hby, -⟩ := H
  subst hp
  intro T w
  have w' := w
  obtain ⟨locs, X, F, O⟩ := w
  obtain ⟨t, o, hs, r⟩ := g T w'
  exact ⟨t, o, XS.lcmp X.here hx rfl (hb hby hd) rfl hs, r⟩
theorem s_dup (H : Ok Z k R Q y b ml rt) {v : Value} (hd : decode b pc = .ok (.dup, 1)) (hc : v.category = 1) (hp : pc + 1 = pc') (g : Go Z k cn sn M pc' Ls (v :: v :: st)) : Go Z k cn sn M pc Ls (v :: st) := by
  obtain ⟨p, l, e, R', s, m, args, below, meth, c, Q'⟩ := k
  obtain ⟨hx, hZ, hby, -⟩ := H
  subst hp
  intro T w
  have w' := w
  obtain ⟨locs, X, F, O⟩ := w
  obtain ⟨t, o, hs, r⟩ := g T w'
  exact ⟨t, o, XS.dup X.here hx rfl (hb hby hd) rfl hc hs, r⟩
theorem s_dupx1 (H : Ok Z k R Q y b ml rt) {v v' : Value} (hd : decode b pc = .ok (.dup_x1, 1)) (hc : v.category = 1) (hc' : v'.category = 1) (hp : pc + 1 = pc') (g : Go Z k cn sn M pc' Ls (v :: v' :: v :: st)) : Go Z k cn sn M pc Ls (v :: v' :: st) := by
  obtain ⟨p, l, e, R', s, m, args, below, meth, c, Q'⟩ := k
  obtain ⟨hx, hZ, hby, -⟩ := H
  subst hp
  intro T w
  have w' := w
  obtain ⟨locs, X, F, O⟩ := w
  obtain ⟨t, o, hs, r⟩ := g T w'
  exact ⟨t, o, XS.dupX1 X.here hx rfl (hb hby hd) rfl hc hc' hs, r⟩
theorem s_dup2 (H : Ok Z k R Q y b ml rt) {v v' : Value} (hd : decode b pc = .ok (.dup2, 1)) (hc : v.category = 1) (hc' : v'.category = 1) (hp : pc + 1 = pc') (g : Go Z k cn sn M pc' Ls (v :: v' :: v :: v' :: st)) : Go Z k cn sn M pc Ls (v :: v' :: st) := by
  obtain ⟨p, l, e, R', s, m, args, below, meth, c, Q'⟩ := k
  obtain ⟨hx, hZ, hby, -⟩ := H
  subst hp
  intro T w
  have w' := w
  obtain ⟨locs, X, F, O⟩ := w
  obtain ⟨t, o, hs, r⟩ := g T w'
  exact ⟨t, o, XT.dup2 X.here hx rfl (hb hby hd) rfl hc hc' hs, r⟩
theorem s_dup2l (H : Ok Z k R Q y b ml rt) {x : Int64} (hd : decode b pc = .ok (.dup2, 1)) (hp : pc + 1 = pc') (g : Go Z k cn sn M pc' Ls (.long x :: .long x :: st)) : Go Z k cn sn M pc Ls (.long x :: st) := by
  obtain ⟨p, l, e, R', s, m, args, below, meth, c, Q'⟩ := k
  obtain ⟨hx, hZ, hby, -⟩ := H
  subst hp
  intro T w
  have w' := w
  obtain ⟨locs, X, F, O⟩ := w
  obtain ⟨t, o, hs, r⟩ := g T w'
  exact ⟨t, o, XT.dup2L X.here hx rfl (hb hby hd) rfl hs, r⟩
theorem s_pop (H : Ok Z k R Q y b ml rt) {v : Value} (hd : decode b pc = .ok (.pop, 1)) (hc : v.category = 1) (hp : pc + 1 = pc') (g : Go Z k cn sn M pc' Ls (st)) : Go Z k cn sn M pc Ls (v :: st) := by
  obtain ⟨p, l, e, R', s, m, args, below, meth, c, Q'⟩ := k
  obtain ⟨hx, hZ, hby, -⟩ := H
  subst hp
  intro T w
  have w' := w
  obtain ⟨locs, X, F, O⟩ := w
  obtain ⟨t, o, hs, r⟩ := g T w'
  exact ⟨t, o, XS.pop X.here hx rfl (hb hby hd) rfl hc hs, r⟩
theorem s_iinc (H : Ok Z k R Q y b ml rt) {i : Nat} {cst : Int} {x u : Int32} {L' : Int32 → Array Slot} (hd : decode b pc = .ok (.iinc i cst, 3)) (hl0 : Ls[i]? = some (.val (.int x))) (hu : u = Int32.ofInt cst) (hl : ∀ z, storeLocals Ls i (.int z) = some (L' z)) (hp : pc + 3 = pc') (g : ∀ z, z = x + u → Go Z k cn sn M pc' (L' z) st) : Go Z k cn sn M pc Ls st := by
  obtain ⟨p, l, e, R', s, m, args, below, meth, c, Q'⟩ := k
  obtain ⟨hx, hZ, hby, -⟩ := H
  subst hp hu
  intro T w
  have w' := w
  obtain ⟨locs, X, F, O⟩ := w
  obtain ⟨t, o, hs, r⟩ := g _ rfl T w'
  exact ⟨t, o, XS.iinc X.here hx rfl (hb hby hd) hl0 (hl _) hs, r⟩
theorem s_goto (H : Ok Z k R Q y b ml rt) {o : Int} (hd : decode b pc = .ok (.goto o, 3)) (ho : (pc : Int) + o = pc') (g : Go Z k cn sn M pc' Ls st) : Go Z k cn sn M pc Ls st := by
  obtain ⟨p, l, e, R', s, m, args, below, meth, c, Q'⟩ := k
  obtain ⟨hx, hZ, hby, -⟩ := H
  intro T w
  have w' := w
  obtain ⟨locs, X, F, O⟩ := w
  obtain ⟨t, o, hs, r⟩ := g T w'
  exact ⟨t, o, XS.goto X.here hx rfl (pc0 := pc) rfl (hb hby hd) (by omega) (by omega) hs, r⟩
theorem s_if (H : Ok Z k R Q y b ml rt) {cd : ClassFile.Cond} {o : Int} {x : Int32} {py : Nat} {φ : Prop} (hd : decode b pc = .ok (.ifCond cd o, 3)) (hq : ifCond.holds cd x = true ↔ φ) (ho : (pc : Int) + o = py) (hp : pc + 3 = pc') (gy : φ → Go Z k cn sn M py Ls st) (gn : ¬ φ → Go Z k cn sn M pc' Ls st) : Go Z k cn sn M pc Ls (.int x :: st) := by
  obtain ⟨p, l, e, R', s, m, args, below, meth, c, Q'⟩ := k
  obtain ⟨hx, hZ, hby, -⟩ := H
  subst hp
  intro T w
  have w' := w
  obtain ⟨locs, X, F, O⟩ := w
  cases hh : ifCond.holds cd x with
  | true =>
    obtain ⟨t, o, hs, r⟩ := gy (hq.mp hh) T w'
    exact ⟨t, o, XS.ifYes X.here hx rfl (pc0 := pc) rfl (hb hby hd) rfl hh (by omega) (by omega) hs, r⟩
  | false =>
    obtain ⟨t, o, hs, r⟩ := gn (fun q => by rw [hq.mpr q] at hh; cases hh) T w'
    exact ⟨t, o, XS.ifNo X.here hx rfl (hb hby hd) rfl hh hs, r⟩
theorem s_icmp (H : Ok Z k R Q y b ml rt) {cd : ClassFile.Cond} {o : Int} {x u : Int32} {py : Nat} {φ : Prop} (hd : decode b pc = .ok (.if_icmp cd o, 3)) (hq : if_icmp.holds cd x u = true ↔ φ) (ho : (pc : Int) + o = py) (hp : pc + 3 = pc') (gy : φ → Go Z k cn sn M py Ls st) (gn : ¬ φ → Go Z k cn sn M pc' Ls st) : Go Z k cn sn M pc Ls (.int u :: .int x :: st) := by
  obtain ⟨p, l, e, R', s, m, args, below, meth, c, Q'⟩ := k
  obtain ⟨hx, hZ, hby, -⟩ := H
  subst hp
  intro T w
  have w' := w
  obtain ⟨locs, X, F, O⟩ := w
  cases hh : if_icmp.holds cd x u with
  | true =>
    obtain ⟨t, o, hs, r⟩ := gy (hq.mp hh) T w'
    exact ⟨t, o, XS.icmpYes X.here hx rfl (pc0 := pc) rfl (hb hby hd) rfl hh (by omega) (by omega) hs, r⟩
  | false =>
    obtain ⟨t, o, hs, r⟩ := gn (fun q => by rw [hq.mpr q] at hh; cases hh) T w'
    exact ⟨t, o, XS.icmpNo X.here hx rfl (hb hby hd) rfl hh hs, r⟩
theorem q_eq {x u : Int32} : if_icmp.holds .eq x u = true ↔ x = u := by simp [if_icmp.holds]
theorem z_eq {x : Int32} : ifCond.holds .eq x = true ↔ x = 0 := by rw [if0]; exact q_eq
theorem q_ne {x u : Int32} : if_icmp.holds .ne x u = true ↔ ¬ x = u := by simp [if_icmp.holds]
theorem z_ne {x : Int32} : ifCond.holds .ne x = true ↔ ¬ x = 0 := by rw [if0]; exact q_ne
theorem q_lt {x u : Int32} : if_icmp.holds .lt x u = true ↔ x < u := by simp [if_icmp.holds]
theorem z_lt {x : Int32} : ifCond.holds .lt x = true ↔ x < 0 := by rw [if0]; exact q_lt
theorem q_ge {x u : Int32} : if_icmp.holds .ge x u = true ↔ u ≤ x := by simp [if_icmp.holds]
theorem z_ge {x : Int32} : ifCond.holds .ge x = true ↔ 0 ≤ x := by rw [if0]; exact q_ge
theorem q_gt {x u : Int32} : if_icmp.holds .gt x u = true ↔ u < x := by simp [if_icmp.holds]
theorem z_gt {x : Int32} : ifCond.holds .gt x = true ↔ 0 < x := by rw [if0]; exact q_gt
theorem q_le {x u : Int32} : if_icmp.holds .le x u = true ↔ x ≤ u := by simp [if_icmp.holds]
theorem z_le {x : Int32} : ifCond.holds .le x = true ↔ x ≤ 0 := by rw [if0]; exact q_le
theorem l_eq {x u : Int64} : ifCond.holds .eq (lcmpW x u) = true ↔ x = u := z_eq.trans (lw_eq x u)
theorem l_ne {x u : Int64} : ifCond.holds .ne (lcmpW x u) = true ↔ ¬ x = u := z_ne.trans (not_congr (lw_eq x u))
theorem l_lt {x u : Int64} : ifCond.holds .lt (lcmpW x u) = true ↔ x < u := z_lt.trans (lw_lt x u)
theorem l_gt {x u : Int64} : ifCond.holds .gt (lcmpW x u) = true ↔ u < x := z_gt.trans (lw_gt x u)
theorem l_ge {x u : Int64} : ifCond.holds .ge (lcmpW x u) = true ↔ u ≤ x := z_ge.trans (by rw [lcW]; exact lc_ge x u)
theorem l_le {x u : Int64} : ifCond.holds .le (lcmpW x u) = true ↔ x ≤ u := z_le.trans (by rw [lcW]; exact lc_le x u)
theorem s_ifnull (H : Ok Z k R Q y b ml rt) {o : Int} {a : Addr} (hd : decode b pc = .ok (.ifnull o, 3)) (hp : pc + 3 = pc') (g : Go Z k cn sn M pc' Ls st) : Go Z k cn sn M pc Ls (.ref a :: st) := by
  obtain ⟨p, l, e, R', s, m, args, below, meth, c, Q'⟩ := k
  obtain ⟨hx, hZ, hby, -⟩ := H
  subst hp
  intro T w
  have w' := w
  obtain ⟨locs, X, F, O⟩ := w
  obtain ⟨t, o, hs, r⟩ := g T w'
  exact ⟨t, o, XS.ifnullNo X.here hx rfl (hb hby hd) rfl hs, r⟩
theorem s_acmpne (H : Ok Z k R Q y b ml rt) {o : Int} {a a' : Addr} {py : Nat} (hd : decode b pc = .ok (.if_acmp .ne o, 3)) (hne : a ≠ a') (ho : (pc : Int) + o = py) (g : Go Z k cn sn M py Ls st) : Go Z k cn sn M pc Ls (.ref a' :: .ref a :: st) := by
  obtain ⟨p, l, e, R', s, m, args, below, meth, c, Q'⟩ := k
  obtain ⟨hx, hZ, hby, -⟩ := H
  intro T w
  have w' := w
  obtain ⟨locs, X, F, O⟩ := w
  obtain ⟨t, o, hs, r⟩ := g T w'
  exact ⟨t, o, XS.acmpYes X.here hx rfl (pc0 := pc) rfl (hb hby hd) rfl (by simp [if_acmp.holds, hne]) (by omega) (by omega) hs, r⟩
theorem s_acmpeq (H : Ok Z k R Q y b ml rt) {o : Int} {a a' : Addr} (hd : decode b pc = .ok (.if_acmp .eq o, 3)) (hne : a ≠ a') (hp : pc + 3 = pc') (g : Go Z k cn sn M pc' Ls st) : Go Z k cn sn M pc Ls (.ref a' :: .ref a :: st) := by
  obtain ⟨p, l, e, R', s, m, args, below, meth, c, Q'⟩ := k
  obtain ⟨hx, hZ, hby, -⟩ := H
  subst hp
  intro T w
  have w' := w
  obtain ⟨locs, X, F, O⟩ := w
  obtain ⟨t, o, hs, r⟩ := g T w'
  exact ⟨t, o, XS.acmpNo X.here hx rfl (hb hby hd) rfl (by simp [if_acmp.holds, hne]) hs, r⟩
theorem s_ldc2 (H : Ok Z k R Q y b ml rt) {i : Nat} {z : Int64} (hd : decode b pc = .ok (.ldc2_w i, 3)) (w1 : Jvm.Cond.constantLong y.cls i z ∈ tables_1) (hp : pc + 3 = pc') (g : Go Z k cn sn M pc' Ls (.long z :: st)) : Go Z k cn sn M pc Ls st := by
  obtain ⟨p, l, e, R', s, m, args, below, meth, c, Q'⟩ := k
  obtain ⟨hx, hZ, hby, -, hown, -, -, -, ⟨a0, hw⟩, -⟩ := H
  subst hp
  intro T w
  have w' := w
  obtain ⟨locs, X, F, O⟩ := w
  obtain ⟨t, o, hs, r⟩ := g T w'
  exact ⟨t, o, X.ldc2Long hx hown (mvT hZ (hw _ w1)) (g := mkF m pc Ls st) rfl (hb hby hd) _ hs, r⟩
theorem s_ldc (H : Ok Z k R Q y b ml rt) {i : Nat} {z : Int32} (hd : decode b pc = .ok (.ldc i, 2)) (w1 : Jvm.Cond.constant y.cls i z ∈ tables_1) (hp : pc + 2 = pc') (g : Go Z k cn sn M pc' Ls (.int z :: st)) : Go Z k cn sn M pc Ls st := by
  obtain ⟨p, l, e, R', s, m, args, below, meth, c, Q'⟩ := k
  obtain ⟨hx, hZ, hby, -, hown, -, -, -, ⟨a0, hw⟩, -⟩ := H
  subst hp
  intro T w
  have w' := w
  obtain ⟨locs, X, F, O⟩ := w
  obtain ⟨t, o, hs, r⟩ := g T w'
  exact ⟨t, o, X.ldcInt hx hown (mvT hZ (hw _ w1)) (g := mkF m pc Ls st) rfl (hb hby hd) _ hs, r⟩
theorem s_ldcw (H : Ok Z k R Q y b ml rt) {i : Nat} {z : Int32} (hd : decode b pc = .ok (.ldc_w i, 3)) (w1 : Jvm.Cond.constant y.cls i z ∈ tables_1) (hp : pc + 3 = pc') (g : Go Z k cn sn M pc' Ls (.int z :: st)) : Go Z k cn sn M pc Ls st := by
  obtain ⟨p, l, e, R', s, m, args, below, meth, c, Q'⟩ := k
  obtain ⟨hx, hZ, hby, -, hown, -, -, -, ⟨a0, hw⟩, -⟩ := H
  subst hp
  intro T w
  have w' := w
  obtain ⟨locs, X, F, O⟩ := w
  obtain ⟨t, o, hs, r⟩ := g T w'
  exact ⟨t, o, X.ldcwInt hx hown (mvT hZ (hw _ w1)) (g := mkF m pc Ls st) rfl (hb hby hd) _ hs, r⟩
/-! the heap's steps -/
theorem nb_of {n : Nat} {j : Int32} (h0 : ¬ j < 0) (hl : j.toNatClampNeg < n) : ¬ (j < 0 ∨ n ≤ j.toNatClampNeg) := fun q => q.elim h0 fun r => Nat.not_lt.mpr r hl
theorem s_alenI (H : Ok Z k R Q y b ml rt) {i : Nat} {a : Addr} {ty : FieldType} {vs : List Int32} {z : Int32} (hd : decode b pc = .ok (.arraylength, 1)) (hi : M[i]? = some (a, ArI Z ty vs)) (hz : z = vs.length.toInt32) (hp : pc + 1 = pc') (g : Go Z k cn sn M pc' Ls (.int z :: st)) : Go Z k cn sn M pc Ls (.ref a :: st) := by
  obtain ⟨p, l, e, R', s, m, args, below, meth, c, Q'⟩ := k
  obtain ⟨hx, hZ, hby, -⟩ := H
  subst hp hz
  intro T w
  have w' := w
  obtain ⟨locs, X, F, O⟩ := w
  obtain ⟨-, cl, q1, q2⟩ := O.2.1 i _ hi
  obtain ⟨t, o, hs, r⟩ := g T w'
  exact ⟨t, o, X.arraylength hx q1 (State.isArrayOf_alike hZ.alike q2.1) (g := mkF m pc Ls (.ref a :: st)) rfl rfl (hb hby hd) _ (by rw [q2.size]; exact hs), r⟩
theorem s_alenL (H : Ok Z k R Q y b ml rt) {i : Nat} {a : Addr} {vs : List Int64} {z : Int32} (hd : decode b pc = .ok (.arraylength, 1)) (hi : M[i]? = some (a, ArL Z vs)) (hz : z = vs.length.toInt32) (hp : pc + 1 = pc') (g : Go Z k cn sn M pc' Ls (.int z :: st)) : Go Z k cn sn M pc Ls (.ref a :: st) := by
  obtain ⟨p, l, e, R', s, m, args, below, meth, c, Q'⟩ := k
  obtain ⟨hx, hZ, hby, -⟩ := H
  subst hp hz
  intro T w
  have w' := w
  obtain ⟨locs, X, F, O⟩ := w
  obtain ⟨-, cl, q1, q2⟩ := O.2.1 i _ hi
  obtain ⟨t, o, hs, r⟩ := g T w'
  exact ⟨t, o, X.arraylength hx q1 (State.isArrayOf_alike hZ.alike q2.1) (g := mkF m pc Ls (.ref a :: st)) rfl rfl (hb hby hd) _ (by rw [q2.size]; exact hs), r⟩
theorem s_iaload (H : Ok Z k R Q y b ml rt) {i : Nat} {a : Addr} {vs : List Int32} {j : Int32} {x : Int32} (hd : decode b pc = .ok (.iaload, 1)) (hi : M[i]? = some (a, ArI Z .int vs)) (h0 : ¬ j < 0) {jn : Nat} (hjn : j.toNatClampNeg = jn) (hv : vs[jn]? = some x) (hp : pc + 1 = pc') (g : Go Z k cn sn M pc' Ls (.int x :: st)) : Go Z k cn sn M pc Ls (.int j :: .ref a :: st) := by
  obtain ⟨p, l, e, R', s, m, args, below, meth, c, Q'⟩ := k
  obtain ⟨hx, hZ, hby, -⟩ := H
  subst hp hjn
  intro T w
  have w' := w
  obtain ⟨locs, X, F, O⟩ := w
  obtain ⟨-, cl, q1, q2⟩ := O.2.1 i _ hi
  obtain ⟨t, o, hs, r⟩ := g T w'
  have hlt : j.toNatClampNeg < vs.length := (List.getElem?_eq_some_iff.mp hv).1
  exact ⟨t, o, X.iaload hx (v := .int x) q1 (State.isArrayOf_alike hZ.alike q2.1) q2.2.1 (nb_of h0 (by rw [q2.size]; exact hlt)) (by rw [q2.2.2.1]; simp [hv]) (g := mkF m pc Ls (.int j :: .ref a :: st)) rfl rfl (hb hby hd) _ hs, r⟩
theorem s_baload (H : Ok Z k R Q y b ml rt) {i : Nat} {a : Addr} {vs : List Int32} {j : Int32} {x : Int32} (hd : decode b pc = .ok (.baload, 1)) (hi : M[i]? = some (a, ArI Z .byte vs)) (h0 : ¬ j < 0) {jn : Nat} (hjn : j.toNatClampNeg = jn) (hv : vs[jn]? = some x) (hp : pc + 1 = pc') (g : Go Z k cn sn M pc' Ls (.int x :: st)) : Go Z k cn sn M pc Ls (.int j :: .ref a :: st) := by
  obtain ⟨p, l, e, R', s, m, args, below, meth, c, Q'⟩ := k
  obtain ⟨hx, hZ, hby, -⟩ := H
  subst hp hjn
  intro T w
  have w' := w
  obtain ⟨locs, X, F, O⟩ := w
  obtain ⟨-, cl, q1, q2⟩ := O.2.1 i _ hi
  obtain ⟨t, o, hs, r⟩ := g T w'
  have hlt : j.toNatClampNeg < vs.length := (List.getElem?_eq_some_iff.mp hv).1
  exact ⟨t, o, X.baloadBytes hx (v := .int x) q1 (State.isArrayOf_alike hZ.alike q2.1) q2.2.1 (nb_of h0 (by rw [q2.size]; exact hlt)) (by rw [q2.2.2.1]; simp [hv]) (g := mkF m pc Ls (.int j :: .ref a :: st)) rfl rfl (hb hby hd) _ hs, r⟩
theorem s_zaload (H : Ok Z k R Q y b ml rt) {i : Nat} {a : Addr} {vs : List Int32} {j : Int32} {x : Int32} (hd : decode b pc = .ok (.baload, 1)) (hi : M[i]? = some (a, ArI Z .boolean vs)) (h0 : ¬ j < 0) {jn : Nat} (hjn : j.toNatClampNeg = jn) (hv : vs[jn]? = some x) (hp : pc + 1 = pc') (g : Go Z k cn sn M pc' Ls (.int x :: st)) : Go Z k cn sn M pc Ls (.int j :: .ref a :: st) := by
  obtain ⟨p, l, e, R', s, m, args, below, meth, c, Q'⟩ := k
  obtain ⟨hx, hZ, hby, -⟩ := H
  subst hp hjn
  intro T w
  have w' := w
  obtain ⟨locs, X, F, O⟩ := w
  obtain ⟨-, cl, q1, q2⟩ := O.2.1 i _ hi
  obtain ⟨t, o, hs, r⟩ := g T w'
  have hlt : j.toNatClampNeg < vs.length := (List.getElem?_eq_some_iff.mp hv).1
  exact ⟨t, o, X.baloadBooleans hx (v := .int x) q1 (State.isArrayOf_alike hZ.alike q2.1) q2.2.1 (nb_of h0 (by rw [q2.size]; exact hlt)) (by rw [q2.2.2.1]; simp [hv]) (g := mkF m pc Ls (.int j :: .ref a :: st)) rfl rfl (hb hby hd) _ hs, r⟩
theorem s_laload (H : Ok Z k R Q y b ml rt) {i : Nat} {a : Addr} {vs : List Int64} {j : Int32} {x : Int64} (hd : decode b pc = .ok (.laload, 1)) (hi : M[i]? = some (a, ArL Z vs)) (h0 : ¬ j < 0) {jn : Nat} (hjn : j.toNatClampNeg = jn) (hv : vs[jn]? = some x) (hp : pc + 1 = pc') (g : Go Z k cn sn M pc' Ls (.long x :: st)) : Go Z k cn sn M pc Ls (.int j :: .ref a :: st) := by
  obtain ⟨p, l, e, R', s, m, args, below, meth, c, Q'⟩ := k
  obtain ⟨hx, hZ, hby, -⟩ := H
  subst hp hjn
  intro T w
  have w' := w
  obtain ⟨locs, X, F, O⟩ := w
  obtain ⟨-, cl, q1, q2⟩ := O.2.1 i _ hi
  obtain ⟨t, o, hs, r⟩ := g T w'
  have hlt : j.toNatClampNeg < vs.length := (List.getElem?_eq_some_iff.mp hv).1
  exact ⟨t, o, X.laload hx (v := .long x) q1 (State.isArrayOf_alike hZ.alike q2.1) q2.2.1 (nb_of h0 (by rw [q2.size]; exact hlt)) (by rw [q2.2.2.1]; simp [hv]) (g := mkF m pc Ls (.int j :: .ref a :: st)) rfl rfl (hb hby hd) _ hs, r⟩
theorem s_iastore (H : Ok Z k R Q y b ml rt) {i : Nat} {a : Addr} {vs : List Int32} {j : Int32} {x : Int32} (hd : decode b pc = .ok (.iastore, 1)) (hi : M[i]? = some (a, ArI Z .int vs)) (h0 : ¬ j < 0) {jn : Nat} (hjn : j.toNatClampNeg = jn) (hj : jn < vs.length) (hp : pc + 1 = pc') (g : Go Z k cn sn (M.set i (a, ArI Z .int (vs.set jn x))) pc' Ls st) : Go Z k cn sn M pc Ls (.int x :: .int j :: .ref a :: st) := by
  obtain ⟨p, l, e, R', s, m, args, below, meth, c, Q'⟩ := k
  obtain ⟨hx, hZ, hby, -⟩ := H
  subst hp hjn
  intro T w
  obtain ⟨locs, X, F, O⟩ := w
  obtain ⟨q0, cl, q1, q2⟩ := O.2.1 i _ hi
  obtain ⟨T', h', X', e', W, sg⟩ := stI X hx hZ rfl (q2.arr q1) (j := j) (nb_of h0 (by rw [q2.size]; exact hj)) (g := mkF m pc Ls (.int x :: .int j :: .ref a :: st)) rfl rfl (hb hby hd)
  obtain ⟨t, o, hs, r⟩ := g T' ⟨_, X', Fr.snoc X' F q0, e' ▸ O.upd hi W fun c _ hc => hc.put _ rfl⟩
  exact ⟨t, o, sg _ hs, r⟩
theorem s_bastore (H : Ok Z k R Q y b ml rt) {i : Nat} {a : Addr} {vs : List Int32} {j : Int32} {x0 x : Int32} (hd : decode b pc = .ok (.bastore, 1)) (hi : M[i]? = some (a, ArI Z .byte vs)) (h0 : ¬ j < 0) {jn : Nat} (hjn : j.toNatClampNeg = jn) (hj : jn < vs.length) (hn : x = nar .byte x0) (hp : pc + 1 = pc') (g : Go Z k cn sn (M.set i (a, ArI Z .byte (vs.set jn x))) pc' Ls st) : Go Z k cn sn M pc Ls (.int x0 :: .int j :: .ref a :: st) := by
  obtain ⟨p, l, e, R', s, m, args, below, meth, c, Q'⟩ := k
  obtain ⟨hx, hZ, hby, -⟩ := H
  subst hp hjn hn
  intro T w
  obtain ⟨locs, X, F, O⟩ := w
  obtain ⟨q0, cl, q1, q2⟩ := O.2.1 i _ hi
  obtain ⟨T', h', X', e', W, sg⟩ := stB X hx hZ rfl (q2.arr q1) (j := j) (nb_of h0 (by rw [q2.size]; exact hj)) (g := mkF m pc Ls (.int x0 :: .int j :: .ref a :: st)) rfl rfl (hb hby hd)
  obtain ⟨t, o, hs, r⟩ := g T' ⟨_, X', Fr.snoc X' F q0, e' ▸ O.upd hi W fun c _ hc => hc.put _ (fits_nar_byte _)⟩
  exact ⟨t, o, sg _ hs, r⟩
theorem s_zastore (H : Ok Z k R Q y b ml rt) {i : Nat} {a : Addr} {vs : List Int32} {j : Int32} {x0 x : Int32} (hd : decode b pc = .ok (.bastore, 1)) (hi : M[i]? = some (a, ArI Z .boolean vs)) (h0 : ¬ j < 0) {jn : Nat} (hjn : j.toNatClampNeg = jn) (hj : jn < vs.length) (hn : x = nar .boolean x0) (hp : pc + 1 = pc') (g : Go Z k cn sn (M.set i (a, ArI Z .boolean (vs.set jn x))) pc' Ls st) : Go Z k cn sn M pc Ls (.int x0 :: .int j :: .ref a :: st) := by
  obtain ⟨p, l, e, R', s, m, args, below, meth, c, Q'⟩ := k
  obtain ⟨hx, hZ, hby, -⟩ := H
  subst hp hjn hn
  intro T w
  obtain ⟨locs, X, F, O⟩ := w
  obtain ⟨q0, cl, q1, q2⟩ := O.2.1 i _ hi
  obtain ⟨T', h', X', e', W, sg⟩ := stZ X hx hZ rfl (q2.arr q1) (j := j) (nb_of h0 (by rw [q2.size]; exact hj)) (g := mkF m pc Ls (.int x0 :: .int j :: .ref a :: st)) rfl rfl (hb hby hd)
  obtain ⟨t, o, hs, r⟩ := g T' ⟨_, X', Fr.snoc X' F q0, e' ▸ O.upd hi W fun c _ hc => hc.put _ (fits_nar_bool _)⟩
  exact ⟨t, o, sg _ hs, r⟩
theorem s_lastore (H : Ok Z k R Q y b ml rt) {i : Nat} {a : Addr} {vs : List Int64} {j : Int32} {x : Int64} (hd : decode b pc = .ok (.lastore, 1)) (hi : M[i]? = some (a, ArL Z vs)) (h0 : ¬ j < 0) {jn : Nat} (hjn : j.toNatClampNeg = jn) (hj : jn < vs.length) (hp : pc + 1 = pc') (g : Go Z k cn sn (M.set i (a, ArL Z (vs.set jn x))) pc' Ls st) : Go Z k cn sn M pc Ls (.long x :: .int j :: .ref a :: st) := by
  obtain ⟨p, l, e, R', s, m, args, below, meth, c, Q'⟩ := k
  obtain ⟨hx, hZ, hby, -⟩ := H
  subst hp hjn
  intro T w
  obtain ⟨locs, X, F, O⟩ := w
  obtain ⟨q0, cl, q1, q2⟩ := O.2.1 i _ hi
  obtain ⟨T', h', X', e', W, sg⟩ := stJ X hx hZ rfl (q2.arr q1) (j := j) (nb_of h0 (by rw [q2.size]; exact hj)) (g := mkF m pc Ls (.long x :: .int j :: .ref a :: st)) rfl rfl (hb hby hd)
  obtain ⟨t, o, hs, r⟩ := g T' ⟨_, X', Fr.snoc X' F q0, e' ▸ O.upd hi W fun c _ hc => hc.put _⟩
  exact ⟨t, o, sg _ hs, r⟩
theorem s_getf (H : Ok Z k R Q y b ml rt) {i j idx : Nat} {a : Addr} {C O n d : String} {fs : List Fd} {v : Value} (hd : decode b pc = .ok (.getfield idx, 3)) (w1 : Jvm.Cond.fieldLink y.cls idx O n d ∈ tables_1) (hi : M[i]? = some (a, Obj Z C fs)) (hj : fs[j]? = some (O, n, d, v)) (hp : pc + 3 = pc') (g : Go Z k cn sn M pc' Ls (v :: st)) : Go Z k cn sn M pc Ls (.ref a :: st) := by
  obtain ⟨p, l, e, R', s, m, args, below, meth, c, Q'⟩ := k
  obtain ⟨hx, hZ, hby, -, hown, -, -, -, ⟨a0, hw⟩, -⟩ := H
  subst hp
  intro T w
  obtain ⟨locs, X, F, OO⟩ := w
  obtain ⟨-, cl, q1, q2⟩ := OO.2.1 i _ hi
  obtain ⟨T', X', e', sg⟩ := getF X hx hZ hown (host := "") (Or.inl (hw _ w1)) Via.refl rfl ((q2.1 _ _ q1).2 j _ hj) (g := mkF m pc Ls (.ref a :: st)) rfl rfl (hb hby hd)
  obtain ⟨t, o, hs, r⟩ := g T' ⟨_, X', F, e' ▸ OO⟩
  exact ⟨t, o, sg _ hs, r⟩
theorem s_getfN (H : Ok Z k R Q y b ml rt) {i j idx : Nat} {a : Addr} {C O n d host : String} {fs : List Fd} {v : Value} (hd : decode b pc = .ok (.getfield idx, 3)) (w1 : Jvm.Cond.fieldLinkNest y.cls idx O n d host ∈ tables_1) (hi : M[i]? = some (a, Obj Z C fs)) (hj : fs[j]? = some (O, n, d, v)) (hp : pc + 3 = pc') (g : Go Z k cn sn M pc' Ls (v :: st)) : Go Z k cn sn M pc Ls (.ref a :: st) := by
  obtain ⟨p, l, e, R', s, m, args, below, meth, c, Q'⟩ := k
  obtain ⟨hx, hZ, hby, -, hown, -, -, -, ⟨a0, hw⟩, -⟩ := H
  subst hp
  intro T w
  obtain ⟨locs, X, F, OO⟩ := w
  obtain ⟨-, cl, q1, q2⟩ := OO.2.1 i _ hi
  obtain ⟨T', X', e', sg⟩ := getF X hx hZ hown (host := host) (Or.inr (hw _ w1)) Via.refl rfl ((q2.1 _ _ q1).2 j _ hj) (g := mkF m pc Ls (.ref a :: st)) rfl rfl (hb hby hd)
  obtain ⟨t, o, hs, r⟩ := g T' ⟨_, X', F, e' ▸ OO⟩
  exact ⟨t, o, sg _ hs, r⟩
theorem s_putf (H : Ok Z k R Q y b ml rt) {i j idx kk : Nat} {a : Addr} {C O n d : String} {fs : List Fd} {v v0 : Value} {ty : FieldType} (hd : decode b pc = .ok (.putfield idx, 3)) (w1 : Jvm.Cond.fieldLink y.cls idx O n d ∈ tables_1) (w2 : Jvm.Cond.lays C O n d ∈ tables_1 ∨ (Jvm.Cond.laysFinal C O n d ∈ tables_1 ∧ y.cls = O ∧ y.name = "<init>")) (w3 : Jvm.Cond.instantiable C kk ∈ tables_1)
    (hty : parseFieldDescriptor d = some ty) (hn : narrow ty v = v) (hf : fits ty v = true) (hi : M[i]? = some (a, Obj Z C fs)) (hj : fs[j]? = some (O, n, d, v0)) (hp : pc + 3 = pc') (g : Go Z k cn sn (M.set i (a, Obj Z C (fs.set j (O, n, d, v)))) pc' Ls st) : Go Z k cn sn M pc Ls (v :: .ref a :: st) := by
  obtain ⟨p, l, e, R', s, m, args, below, meth, c, Q'⟩ := k
  obtain ⟨hx, hZ, hby, -, hown, hnm, -, -, ⟨a0, hw⟩, -⟩ := H
  subst hp
  intro T w
  obtain ⟨locs, X, F, OO⟩ := w
  obtain ⟨q0, cl, q1, q2⟩ := OO.2.1 i _ hi
  obtain ⟨T', h', X', e', W, sg⟩ := putF X hx hZ hown (host := "") (Or.inl (hw _ w1)) Via.refl rfl ((q2.1 _ _ q1).2 j _ hj) (q2.1 _ _ q1).1 (w2.imp (fun q => hw _ q) fun q => ⟨hw _ q.1, q.2.1, hnm.trans q.2.2⟩) (hw _ w3) hty hn hf (g := mkF m pc Ls (v :: .ref a :: st)) rfl rfl (hb hby hd)
  obtain ⟨t, o, hs, r⟩ := g T' ⟨_, X', Fr.snoc X' F q0, e' ▸ OO.upd hi W fun c hc1 hc => hc.put hj hc1 W⟩
  exact ⟨t, o, sg _ hs, r⟩
def Dflt (C : String) (f : Fd) : Prop := (Jvm.Cond.lays C f.1 f.2.1 f.2.2.1 ∈ tables_1 ∨ Jvm.Cond.laysFinal C f.1 f.2.1 f.2.2.1 ∈ tables_1) ∧ ∃ ty, parseFieldDescriptor f.2.2.1 = some ty ∧ f.2.2.2 = defaultValue ty
theorem s_new (H : Ok Z k R Q y b ml rt) {idx n cn' sn' : Nat} {C : String} (fs : List Fd) (hd : decode b pc = .ok (.new idx, 3)) (w1 : Jvm.Cond.classLink y.cls idx C ∈ tables_1) (w2 : Jvm.Cond.instantiable C n ∈ tables_1) (w3 : Jvm.Cond.initialized C ∈ tables_1) (hD : ∀ f ∈ fs, Dflt C f) (hN : (fs.map fun f => f.2.1).Nodup) (hc : cn + 1 = cn') (hs : sn + n = sn') (hc' : cn' ≤ R.cells) (hs' : sn' ≤ R.slots) (hp : pc + 3 = pc')
    (g : ∀ a, Go Z k cn' sn' ((a, Obj Z C fs) :: M) pc' Ls (.ref a :: st)) : Go Z k cn sn M pc Ls st := by
  obtain ⟨p, l, e, R', s, m, args, below, meth, c, Q'⟩ := k
  obtain ⟨hx, hZ, hby, -, hown, hnm, -, -, ⟨a0, hw⟩, rfl, -⟩ := H
  subst hp hc hs
  intro T w
  obtain ⟨locs, X, F, OO⟩ := w
  obtain ⟨T', h', X', e', E, A, D, ⟨cell, hcell, -⟩, sg⟩ := newO X hx hZ hown (hw _ w1) (hw _ w2) (hw _ w3) rfl (g := mkF m pc Ls st) rfl (hb hby hd) hc' hs'
  have hL : ∀ f ∈ fs, Laid Z a0 C f.1 f.2.1 f.2.2.1 := fun f hf => (hD f hf).1.imp (fun q => hw _ q) fun q => hw _ q
  have hB : Obj Z C fs cell := by
    refine ⟨fun h2 a2 hc2 => ⟨exa_at_cell A hcell hc2, fun i f hf => ?_⟩, fun i j f f' hf hf' es => ?_⟩
    · have hm := List.mem_of_getElem? hf
      obtain ⟨-, ty, h1, h2⟩ := hD f hm
      rw [h2]
      exact fld_at_cell (D (hL f hm) h1) hcell hc2
    · obtain ⟨-, ty, h1, -⟩ := hD f (List.mem_of_getElem? hf)
      obtain ⟨-, ty', h1', -⟩ := hD f' (List.mem_of_getElem? hf')
      have hne : f.2.1 = f'.2.1 := Classical.byContradiction fun q => slot_ne (hL f (List.mem_of_getElem? hf)) (hL f' (List.mem_of_getElem? hf')) q h1 h1' es
      rw [List.nodup_iff_pairwise_ne, List.pairwise_iff_getElem] at hN
      obtain ⟨hi, rfl⟩ := List.getElem?_eq_some_iff.mp hf
      obtain ⟨hj, rfl⟩ := List.getElem?_eq_some_iff.mp hf'
      rcases Nat.lt_trichotomy i j with lt | rfl | lt
      · exact (hN i j (by simpa using hi) (by simpa using hj) lt (by simpa using hne)).elim
      · rfl
      · exact (hN j i (by simpa using hj) (by simpa using hi) lt (by simpa using hne.symm)).elim
  obtain ⟨t, o, hs, r⟩ := g _ T' ⟨_, X', F, e' ▸ OO.new E hcell hB⟩
  exact ⟨t, o, sg _ hs, r⟩
theorem s_newarr_int (H : Ok Z k R Q y b ml rt) {cn' sn' cap : Nat} {n : Int32} (hd : decode b pc = .ok (.newarray .int, 2)) (w1 : Jvm.Cond.arrayClass .int ∈ tables_1) (hn : ¬ n < 0) (hcap : n.toNatClampNeg ≤ cap) (hb8 : cap * 8 ≤ 536870912) (hc : cn + 1 = cn') (hs : sn + cap = sn') (hc' : cn' ≤ R.cells) (hs' : sn' ≤ R.slots) (hp : pc + 2 = pc')
    (g : ∀ a, Go Z k cn' sn' ((a, ArI Z .int (List.replicate n.toNatClampNeg 0)) :: M) pc' Ls (.ref a :: st)) : Go Z k cn sn M pc Ls (.int n :: st) := by
  obtain ⟨p, l, e, R', s, m, args, below, meth, c, Q'⟩ := k
  obtain ⟨hx, hZ, hby, -, hown, hnm, -, -, ⟨a0, hw⟩, rfl, -⟩ := H
  subst hp hc hs
  intro T w
  obtain ⟨locs, X, F, OO⟩ := w
  obtain ⟨T', h', cA, X', e', E, A, sg⟩ := newP X hx hZ (aty := .int) (hw _ w1) rfl (g := mkF m pc Ls (.int n :: st)) rfl (hb hby hd) rfl hn hcap hb8 hc' hs'
  have hB : ArI Z .int (List.replicate n.toNatClampNeg 0) (newA cA .int n) := ⟨A.2.1, A.2.2, by simp [newA, defaultValue], by simp; omega, fun x hx => by rw [List.eq_of_mem_replicate hx]; rfl⟩
  obtain ⟨t, o, hs, r⟩ := g _ T' ⟨_, X', F, e' ▸ OO.new E A.1 hB⟩
  exact ⟨t, o, sg _ hs, r⟩
theorem s_newarr_byte (H : Ok Z k R Q y b ml rt) {cn' sn' cap : Nat} {n : Int32} (hd : decode b pc = .ok (.newarray .byte, 2)) (w1 : Jvm.Cond.arrayClass .byte ∈ tables_1) (hn : ¬ n < 0) (hcap : n.toNatClampNeg ≤ cap) (hb8 : cap * 8 ≤ 536870912) (hc : cn + 1 = cn') (hs : sn + cap = sn') (hc' : cn' ≤ R.cells) (hs' : sn' ≤ R.slots) (hp : pc + 2 = pc')
    (g : ∀ a, Go Z k cn' sn' ((a, ArI Z .byte (List.replicate n.toNatClampNeg 0)) :: M) pc' Ls (.ref a :: st)) : Go Z k cn sn M pc Ls (.int n :: st) := by
  obtain ⟨p, l, e, R', s, m, args, below, meth, c, Q'⟩ := k
  obtain ⟨hx, hZ, hby, -, hown, hnm, -, -, ⟨a0, hw⟩, rfl, -⟩ := H
  subst hp hc hs
  intro T w
  obtain ⟨locs, X, F, OO⟩ := w
  obtain ⟨T', h', cA, X', e', E, A, sg⟩ := newP X hx hZ (aty := .byte) (hw _ w1) rfl (g := mkF m pc Ls (.int n :: st)) rfl (hb hby hd) rfl hn hcap hb8 hc' hs'
  have hB : ArI Z .byte (List.replicate n.toNatClampNeg 0) (newA cA .byte n) := ⟨A.2.1, A.2.2, by simp [newA, defaultValue], by simp; omega, fun x hx => by rw [List.eq_of_mem_replicate hx]; rfl⟩
  obtain ⟨t, o, hs, r⟩ := g _ T' ⟨_, X', F, e' ▸ OO.new E A.1 hB⟩
  exact ⟨t, o, sg _ hs, r⟩
theorem s_newarr_bool (H : Ok Z k R Q y b ml rt) {cn' sn' cap : Nat} {n : Int32} (hd : decode b pc = .ok (.newarray .boolean, 2)) (w1 : Jvm.Cond.arrayClass .boolean ∈ tables_1) (hn : ¬ n < 0) (hcap : n.toNatClampNeg ≤ cap) (hb8 : cap * 8 ≤ 536870912) (hc : cn + 1 = cn') (hs : sn + cap = sn') (hc' : cn' ≤ R.cells) (hs' : sn' ≤ R.slots) (hp : pc + 2 = pc')
    (g : ∀ a, Go Z k cn' sn' ((a, ArI Z .boolean (List.replicate n.toNatClampNeg 0)) :: M) pc' Ls (.ref a :: st)) : Go Z k cn sn M pc Ls (.int n :: st) := by
  obtain ⟨p, l, e, R', s, m, args, below, meth, c, Q'⟩ := k
  obtain ⟨hx, hZ, hby, -, hown, hnm, -, -, ⟨a0, hw⟩, rfl, -⟩ := H
  subst hp hc hs
  intro T w
  obtain ⟨locs, X, F, OO⟩ := w
  obtain ⟨T', h', cA, X', e', E, A, sg⟩ := newP X hx hZ (aty := .boolean) (hw _ w1) rfl (g := mkF m pc Ls (.int n :: st)) rfl (hb hby hd) rfl hn hcap hb8 hc' hs'
  have hB : ArI Z .boolean (List.replicate n.toNatClampNeg 0) (newA cA .boolean n) := ⟨A.2.1, A.2.2, by simp [newA, defaultValue], by simp; omega, fun x hx => by rw [List.eq_of_mem_replicate hx]; rfl⟩
  obtain ⟨t, o, hs, r⟩ := g _ T' ⟨_, X', F, e' ▸ OO.new E A.1 hB⟩
  exact ⟨t, o, sg _ hs, r⟩
theorem s_newarr_long (H : Ok Z k R Q y b ml rt) {cn' sn' cap : Nat} {n : Int32} (hd : decode b pc = .ok (.newarray .long, 2)) (w1 : Jvm.Cond.arrayClass .long ∈ tables_1) (hn : ¬ n < 0) (hcap : n.toNatClampNeg ≤ cap) (hb8 : cap * 8 ≤ 536870912) (hc : cn + 1 = cn') (hs : sn + cap = sn') (hc' : cn' ≤ R.cells) (hs' : sn' ≤ R.slots) (hp : pc + 2 = pc')
    (g : ∀ a, Go Z k cn' sn' ((a, ArL Z (List.replicate n.toNatClampNeg 0)) :: M) pc' Ls (.ref a :: st)) : Go Z k cn sn M pc Ls (.int n :: st) := by
  obtain ⟨p, l, e, R', s, m, args, below, meth, c, Q'⟩ := k
  obtain ⟨hx, hZ, hby, -, hown, hnm, -, -, ⟨a0, hw⟩, rfl, -⟩ := H
  subst hp hc hs
  intro T w
  obtain ⟨locs, X, F, OO⟩ := w
  obtain ⟨T', h', cA, X', e', E, A, sg⟩ := newP X hx hZ (aty := .long) (hw _ w1) rfl (g := mkF m pc Ls (.int n :: st)) rfl (hb hby hd) rfl hn hcap hb8 hc' hs'
  have hB : ArL Z (List.replicate n.toNatClampNeg 0) (newA cA .long n) := ⟨A.2.1, A.2.2, by simp [newA, defaultValue], by simp; omega⟩
  obtain ⟨t, o, hs, r⟩ := g _ T' ⟨_, X', F, e' ▸ OO.new E A.1 hB⟩
  exact ⟨t, o, sg _ hs, r⟩
/-! OWN KIT 3: contracts and calls -/
def MQ (Z : State) (rm : Room) (Q : Option Value → Hp → Prop) (U : State) (o : Outcome) (U' : State) : Prop := ∃ v L, o = .returned v ∧ (Fr Z.heap.size L ∧ ∃ M, Q v M ∧ Own Z U'.heap M) ∧ FrameEnd U o U' L rm.cells rm.slots
def Met (Z : State) (y : MethodName) (b : ByteArray) (ml : Nat) (rt : Option FieldType) (rm : Room) (as : List Value) (M : Hp) (Q : Option Value → Hp → Prop) : Prop :=
  ∀ (l : Launch) (h0 : Heap), Own Z h0 M → MetFree l y (head1 [Jvm.Cond.code y b ml rt] rm) (fun a U => a = as.toArray ∧ Z.Warmed39 U.vm ∧ U.heap = h0) (fun _ _ _ _ _ => True) (fun _ U o U' => ∃ v L, o = .returned v ∧ (Fr Z.heap.size L ∧ ∃ M, Q v M ∧ Own Z U'.heap M) ∧ FrameEnd U o U' L rm.cells rm.slots)
theorem met_of {ws : List Jvm.Cond} {as : List Value} {rm : Room} {h0 : Heap} (l : Launch) (hT : Tb Z) (hpl : plainFor y = true) (hef : ∀ m, entryFrame m as.toArray ml = mkF m 0 Ls []) (hO : Own Z h0 M) (body : ∀ k, Ok Z k rm Q y b ml rt → Go Z k 0 0 M 0 Ls []) :
    MetFree l y (head1 (Jvm.Cond.code y b ml rt :: ws) rm) (fun a U => a = as.toArray ∧ Z.Warmed39 U.vm ∧ U.heap = h0) (fun _ _ _ _ _ => True) (fun _ U o U' => ∃ v L, o = .returned v ∧ (Fr Z.heap.size L ∧ ∃ M, Q v M ∧ Own Z U'.heap M) ∧ FrameEnd U o U' L rm.cells rm.slots) := by
  refine MetFree.of_bodySF hpl hisR ?_
  intro p e s m args below meth c s₁ Bd hml0 hP hK
  obtain ⟨rfl, hZ, hh⟩ := hP
  have X0 : Stand p l e rm s m as.toArray below meth c s₁ [] 0 0 := Stand.of_body Bd
  have e0 : s₁.heap = h0 := by rw [← hh, Bd.state]; rfl
  obtain ⟨t, o, hs, r⟩ := body (p, l, e, rm, s, m, as.toArray, below, meth, c, Q) ⟨Bd.exec, hZ, Bd.bytes, hml0, findClass_of_methodNamed Bd.named, (name_of_methodNamed Bd.named Bd.method).1, Bd.returns, Bd.notSynchronized, hT, rfl, rfl⟩ s₁ ⟨[], X0, Fr.nil _, e0 ▸ hO⟩
  exact ⟨t, o, castTop (hef m) hs, r⟩
theorem Met.of {as : List Value} {rm : Room} (hT : Tb Z) (hpl : plainFor y = true) (hef : ∀ m, entryFrame m as.toArray ml = mkF m 0 Ls []) (body : ∀ k, Ok Z k rm Q y b ml rt → Go Z k 0 0 M 0 Ls []) : Met Z y b ml rt rm as M Q := fun l h0 hO => met_of l hT hpl hef hO body
theorem Met.mono {as : List Value} {rm : Room} {Q' : Option Value → Hp → Prop} (h : Met Z y b ml rt rm as M Q) (q : ∀ v M, Q v M → Q' v M) : Met Z y b ml rt rm as M Q' := fun l h0 hO p e ha hc hk s m args below hf happ hP hK => by
  obtain ⟨n, o, h1, h2, h3, v, L, h4, ⟨h5, M', h6, h7⟩, h8⟩ := h l h0 hO p e ha hc hk s m args below hf happ hP hK
  exact ⟨n, o, h1, h2, h3, v, L, h4, ⟨h5, M', q _ _ h6, h7⟩, h8⟩
theorem s_ret (H : Ok Z k R Q y b ml (some ty)) {i : Instr} {w : Value} (hd : decode b pc = .ok (i, 1)) (hn : narrow ty w = w)
    (hi : (i = .ireturn ∧ (ty = .int ∨ ty = .boolean ∨ ty = .byte ∨ ty = .char ∨ ty = .short) ∧ ∃ z, w = .int z) ∨ (i = .lreturn ∧ ty = .long ∧ ∃ z, w = .long z) ∨ (i = .dreturn ∧ ty = .double ∧ ∃ z, w = .double z) ∨ (i = .freturn ∧ ty = .float ∧ ∃ z, w = .float z) ∨ (i = .areturn ∧ ty.isReference = true ∧ w.isRef = true))
    (hc : cn ≤ R.cells) (hs : sn ≤ R.slots) (q : Q (some w) M) : Go Z k cn sn M pc Ls (w :: st) := by
  obtain ⟨p, l, e, R', s, m, args, below, meth, c, Q'⟩ := k
  obtain ⟨hx, hZ, hby, -, -, -, hret, hlk, -, rfl, rfl⟩ := H
  intro T w'
  obtain ⟨locs, X, F, O⟩ := w'
  obtain ⟨fs, hr, hrun, hended, hW, hsame⟩ := X.leave (v := some w) (fun h => by rw [hret] at h; cases h) hlk
  exact ⟨_, _, retOut X hx hret hn hi (hb hby hd) hr, hrun, hended, _, _, rfl, ⟨F, M, q, O⟩, ⟨_, rfl⟩, hW, hsame.mono hc hs⟩
theorem s_iret (H : Ok Z k R Q y b ml (some ty)) {z : Int32} (hd : decode b pc = .ok (.ireturn, 1)) (hn : narrow ty (.int z) = .int z) (ht : ty = .int ∨ ty = .boolean ∨ ty = .byte ∨ ty = .char ∨ ty = .short) (hc : cn ≤ R.cells) (hs : sn ≤ R.slots) (q : Q (some (.int z)) M) : Go Z k cn sn M pc Ls (.int z :: st) := s_ret H hd hn (Or.inl ⟨rfl, ht, z, rfl⟩) hc hs q
theorem s_lret (H : Ok Z k R Q y b ml (some .long)) {z : Int64} (hd : decode b pc = .ok (.lreturn, 1)) (hc : cn ≤ R.cells) (hs : sn ≤ R.slots) (q : Q (some (.long z)) M) : Go Z k cn sn M pc Ls (.long z :: st) := s_ret H hd rfl (Or.inr (Or.inl ⟨rfl, rfl, z, rfl⟩)) hc hs q
theorem s_aret (H : Ok Z k R Q y b ml (some ty)) {a : Addr} (hd : decode b pc = .ok (.areturn, 1)) (hn : narrow ty (.ref a) = .ref a) (ht : ty.isReference = true) (hc : cn ≤ R.cells) (hs : sn ≤ R.slots) (q : Q (some (.ref a)) M) : Go Z k cn sn M pc Ls (.ref a :: st) := s_ret H hd hn (Or.inr (Or.inr (Or.inr (Or.inr ⟨rfl, ht, rfl⟩)))) hc hs q
theorem s_vret (H : Ok Z k R Q y b ml none) (hd : decode b pc = .ok (.return_, 1)) (hc : cn ≤ R.cells) (hs : sn ≤ R.slots) (q : Q none M) : Go Z k cn sn M pc Ls [] := by
  obtain ⟨p, l, e, R', s, m, args, below, meth, c, Q'⟩ := k
  obtain ⟨hx, hZ, hby, -, -, -, hret, hlk, -, rfl, rfl⟩ := H
  intro T w'
  obtain ⟨locs, X, F, O⟩ := w'
  obtain ⟨fs, hr, hrun, hended, hW, hsame⟩ := X.leave (v := none) (fun _ => rfl) hlk
  exact ⟨_, _, X.returnOut hx hret (hb hby hd) hr, hrun, hended, _, _, rfl, ⟨F, M, q, O⟩, ⟨_, rfl⟩, hW, hsame.mono hc hs⟩
theorem s_objinit (H : Ok Z k R Q y b ml rt) {idx : Nat} {a : Addr} (hd : decode b pc = .ok (.invokespecial idx, 3)) (w1 : Jvm.Cond.methodLink y.cls idx Lib.objectInit ∈ tables_1) (w2 : Jvm.Cond.instanceMethod Lib.objectInit ∈ tables_1) (w3 : Jvm.Cond.code Lib.objectInit ⟨#[0xb1]⟩ 1 none ∈ tables_1) (hsz : Ls.size = ml) (hf : 1 ≤ R.frames) (hl : (st.map fun v => v.category).sum + 12 ≤ R.locals) (hp : pc + 3 = pc') (g : Go Z k cn sn M pc' Ls st) : Go Z k cn sn M pc Ls (.ref a :: st) := by
  obtain ⟨p, l, e, R', s, m, args, below, meth, c, Q'⟩ := k
  obtain ⟨hx, hZ, hby, hml, hown, hnm, -, -, ⟨a0, hw⟩, rfl, -⟩ := H
  subst hp
  intro T w
  obtain ⟨locs, X, F, OO⟩ := w
  obtain ⟨T', X', e', sg⟩ := initO X hx hZ hown (hw _ w1) (hw _ w2) (hw _ w3) rfl (g := mkF m pc Ls (.ref a :: st)) rfl (by rw [hml]; exact hsz) rfl (hb hby hd) hf (W := (st.map fun v => v.category).sum) (by show 2 * 0 + _ ≤ _; omega) hl
  obtain ⟨t, o, hs, r⟩ := g T' ⟨_, X', F, e' ▸ OO⟩
  exact ⟨t, o, sg _ hs, r⟩
theorem s_static (H : Ok Z k R Q y b ml rt) {idx cn' sn' : Nat} {y' : MethodName} {b' : ByteArray} {ml' : Nat} {rt' : Option FieldType} {rm : Room} {as rest : List Value} {Q' : Option Value → Hp → Prop} {sig : MethodDescriptor}
    (hM : Met Z y' b' ml' rt' rm as M Q') (hd : decode b pc = .ok (.invokestatic idx, 3)) (w1 : Jvm.Cond.methodLink y.cls idx y' ∈ tables_1) (w2 : Jvm.Cond.static y' ∈ tables_1) (w3 : Jvm.Cond.initialized y'.cls ∈ tables_1) (w4 : Jvm.Cond.code y' b' ml' rt' ∈ tables_1) (hy : y'.cls ≠ "java/lang/invoke/MethodHandle" ∧ y'.cls ≠ "java/lang/invoke/VarHandle")
    (hsig : parseMethodDescriptor y'.desc = some sig) (hlen : as.length = sig.parameters.length) (hst : st = as.reverse ++ rest) (hsz : Ls.size = ml) (hf : rm.frames + 1 ≤ R.frames) (hl : (rest.map fun v => v.category).sum + (ml' + 11) + rm.locals ≤ R.locals) (hc : cn + rm.cells = cn') (hs : sn + rm.slots = sn') (hc' : cn' ≤ R.cells) (hs' : sn' ≤ R.slots) (hp : pc + 3 = pc')
    (g : ∀ v M', Q' v M' → Go Z k cn' sn' M' pc' Ls (v.toList ++ rest)) : Go Z k cn sn M pc Ls st := by
  obtain ⟨p, l, e, R', s, m, args, below, meth, c, Q''⟩ := k
  obtain ⟨hx, hZ, hby, hml, hown, hnm, -, -, ⟨a0, hw⟩, rfl, -⟩ := H
  subst hp hc hs hst
  intro T w
  obtain ⟨locs, X, F, OO⟩ := w
  obtain ⟨v, _, ⟨T', L', k', n'⟩, -, X', ⟨Lc, ⟨hF, M', hQ, hO⟩, q1, q2, q3⟩, sg⟩ := Jvm.LawKit.callS X hx (y := y') hown (mvT hZ (hw _ w1)) (mvT hZ (hw _ w2)) (mvT hZ (hw _ w3)) (mvT hZ (hw _ w4)) hy (backOf (W := (rest.map fun v => v.category).sum) (Q := fun v h L => Fr Z.heap.size L ∧ ∃ M', Q' v M' ∧ Own Z h M') (hM l _ OO) hZ (hw _ w4) (hw _ w3) hf hl) (g := mkF m pc Ls (as.reverse ++ rest)) rfl (by rw [hml]; exact hsz) (argsL := as) (rest := rest) (lenOf (ps := sig.parameters) (r := sig.returnType) hsig hlen) rfl (by show 2 * 0 + _ ≤ _; omega) (hb hby hd) (fun _ _ => ⟨rfl, rfl, hc', hs'⟩)
  dsimp only [Pt.U, Pt.locs, Pt.cells, Pt.slots] at X' q1 q2 q3 sg hO
  subst q1 q2 q3
  obtain ⟨t, o, hs, r⟩ := g v M' hQ T' ⟨_, X', Fr.app F hF, hO⟩
  exact ⟨t, o, sg _ hs, r⟩
theorem s_init (H : Ok Z k R Q y b ml rt) {idx cn' sn' : Nat} {a : Addr} {y' : MethodName} {b' : ByteArray} {ml' : Nat} {rm : Room} {as rest : List Value} {Q' : Option Value → Hp → Prop} {sig : MethodDescriptor}
    (hM : Met Z y' b' ml' none rm (.ref a :: as) M Q') (hd : decode b pc = .ok (.invokespecial idx, 3)) (hy1 : y'.name = "<init>") (w1 : Jvm.Cond.methodLink y.cls idx y' ∈ tables_1) (w2 : Jvm.Cond.instanceMethod y' ∈ tables_1) (w3 : Jvm.Cond.initialized y'.cls ∈ tables_1) (w4 : Jvm.Cond.code y' b' ml' none ∈ tables_1) (hy : y'.cls ≠ "java/lang/invoke/MethodHandle" ∧ y'.cls ≠ "java/lang/invoke/VarHandle")
    (hsig : parseMethodDescriptor y'.desc = some sig) (hlen : as.length = sig.parameters.length) (hst : st = as.reverse ++ .ref a :: rest) (hsz : Ls.size = ml) (hf : rm.frames + 1 ≤ R.frames) (hl : (rest.map fun v => v.category).sum + (ml' + 11) + rm.locals ≤ R.locals) (hc : cn + rm.cells = cn') (hs : sn + rm.slots = sn') (hc' : cn' ≤ R.cells) (hs' : sn' ≤ R.slots) (hp : pc + 3 = pc')
    (g : ∀ v M', Q' v M' → Go Z k cn' sn' M' pc' Ls (v.toList ++ rest)) : Go Z k cn sn M pc Ls st := by
  obtain ⟨p, l, e, R', s, m, args, below, meth, c, Q''⟩ := k
  obtain ⟨hx, hZ, hby, hml, hown, hnm, -, -, ⟨a0, hw⟩, rfl, -⟩ := H
  subst hp hc hs hst
  intro T w
  obtain ⟨locs, X, F, OO⟩ := w
  obtain ⟨v, _, ⟨T', L', k', n'⟩, -, X', ⟨Lc, ⟨hF, M', hQ, hO⟩, q1, q2, q3⟩, sg⟩ := X.specialBack hx (y := y') hy1 hown (mvT hZ (hw _ w1)) (mvT hZ (hw _ w2)) (mvT hZ (hw _ w4)) hy (backOf (W := (rest.map fun v => v.category).sum) (Q := fun v h L => Fr Z.heap.size L ∧ ∃ M', Q' v M' ∧ Own Z h M') (hM l _ OO) hZ (hw _ w4) (hw _ w3) hf hl) (g := mkF m pc Ls (as.reverse ++ .ref a :: rest)) rfl (by rw [hml]; exact hsz) (Steps.refl _) (a := a) (argsL := as) (rest := rest) (lenOf (ps := sig.parameters) (r := sig.returnType) hsig hlen) rfl (by show 2 * 0 + _ ≤ _; omega) (hb hby hd) (fun _ _ => ⟨rfl, rfl, hc', hs'⟩)
  dsimp only [Pt.U, Pt.locs, Pt.cells, Pt.slots] at X' q1 q2 q3 sg hO
  subst q1 q2 q3
  obtain ⟨t, o, hs, r⟩ := g v M' hQ T' ⟨_, X', Fr.app F hF, hO⟩
  exact ⟨t, o, sg.trans hs, r⟩
theorem s_virtual (H : Ok Z k R Q y b ml rt) {i idx cn' sn' : Nat} {a : Addr} {C : String} {fs : List Fd} {y' : MethodName} {b' : ByteArray} {ml' : Nat} {rt' : Option FieldType} {rm : Room} {as rest : List Value} {Q' : Option Value → Hp → Prop} {sig : MethodDescriptor}
    (hM : Met Z y' b' ml' rt' rm (.ref a :: as) M Q') (hd : decode b pc = .ok (.invokevirtual idx, 3)) (hi : M[i]? = some (a, Obj Z C fs)) (w1 : Jvm.Cond.methodLink y.cls idx y' ∈ tables_1) (w2 : Jvm.Cond.declares y' ∈ tables_1) (w5 : Jvm.Cond.selects C y' y' ∈ tables_1) (w6 : Jvm.Cond.instanceMethod y' ∈ tables_1) (w3 : Jvm.Cond.initialized y'.cls ∈ tables_1) (w4 : Jvm.Cond.code y' b' ml' rt' ∈ tables_1) (hy : y'.cls ≠ "java/lang/invoke/MethodHandle" ∧ y'.cls ≠ "java/lang/invoke/VarHandle")
    (hsig : parseMethodDescriptor y'.desc = some sig) (hlen : as.length = sig.parameters.length) (hst : st = as.reverse ++ .ref a :: rest) (hsz : Ls.size = ml) (hf : rm.frames + 1 ≤ R.frames) (hl : (rest.map fun v => v.category).sum + (ml' + 11) + rm.locals ≤ R.locals) (hc : cn + rm.cells = cn') (hs : sn + rm.slots = sn') (hc' : cn' ≤ R.cells) (hs' : sn' ≤ R.slots) (hp : pc + 3 = pc')
    (g : ∀ v M', Q' v M' → Go Z k cn' sn' M' pc' Ls (v.toList ++ rest)) : Go Z k cn sn M pc Ls st := by
  obtain ⟨p, l, e, R', s, m, args, below, meth, c, Q''⟩ := k
  obtain ⟨hx, hZ, hby, hml, hown, hnm, -, -, ⟨a0, hw⟩, rfl, -⟩ := H
  subst hp hc hs hst
  intro T w
  obtain ⟨locs, X, F, OO⟩ := w
  obtain ⟨-, cl, c1, c2⟩ := OO.2.1 i _ hi
  obtain ⟨cq, kq, qa, qb, qc⟩ := isOf hZ rfl (c2.1 _ _ c1).1
  obtain ⟨v, _, ⟨T', L', k', n'⟩, -, X', ⟨Lc, ⟨hF, M', hQ, hO⟩, q1, q2, q3⟩, sg⟩ := X.virtualBack hx (y := y') (z := y') hown (mvT hZ (hw _ w1)) (mvT hZ (hw _ w2)) (notFace_of_selects (args := #[]) (mvT hZ (hw _ w5))) (mvT hZ (hw _ w5)) (mvT hZ (hw _ w6)) hy (backOf (W := (rest.map fun v => v.category).sum) (Q := fun v h L => Fr Z.heap.size L ∧ ∃ M', Q' v M' ∧ Own Z h M') (hM l _ OO) hZ (hw _ w4) (hw _ w3) hf hl) qa qc (g := mkF m pc Ls (as.reverse ++ .ref a :: rest)) rfl (by rw [hml]; exact hsz) (Steps.refl _) (argsL := as) (rest := rest) (lenOf (ps := sig.parameters) (r := sig.returnType) hsig hlen) rfl (by show 2 * 0 + _ ≤ _; omega) (hb hby hd) (fun _ _ => ⟨rfl, rfl, hc', hs'⟩)
  dsimp only [Pt.U, Pt.locs, Pt.cells, Pt.slots] at X' q1 q2 q3 sg hO
  subst q1 q2 q3
  obtain ⟨t, o, hs, r⟩ := g v M' hQ T' ⟨_, X', Fr.app F hF, hO⟩
  exact ⟨t, o, sg.trans hs, r⟩
theorem s_priv (H : Ok Z k R Q y b ml rt) {i idx cn' sn' : Nat} {a : Addr} {C : String} {fs : List Fd} {y' y0 : MethodName} {b' : ByteArray} {ml' : Nat} {rt' : Option FieldType} {rm : Room} {as rest : List Value} {Q' : Option Value → Hp → Prop} {sig : MethodDescriptor}
    (hM : Met Z y' b' ml' rt' rm (.ref a :: as) M Q') (hd : decode b pc = .ok (.invokevirtual idx, 3)) (hi : M[i]? = some (a, Obj Z C fs)) (w1 : Jvm.Cond.methodLink y.cls idx y' ∈ tables_1) (w2 : Jvm.Cond.privateMethod y' ∈ tables_1) (w5 : Jvm.Cond.selects y'.cls y0 y0 ∈ tables_1) (h0 : y0.cls = y'.cls) (w6 : Jvm.Cond.instanceMethod y' ∈ tables_1) (w3 : Jvm.Cond.initialized y'.cls ∈ tables_1) (w4 : Jvm.Cond.code y' b' ml' rt' ∈ tables_1) (hy : y'.cls ≠ "java/lang/invoke/MethodHandle" ∧ y'.cls ≠ "java/lang/invoke/VarHandle")
    (hsig : parseMethodDescriptor y'.desc = some sig) (hlen : as.length = sig.parameters.length) (hst : st = as.reverse ++ .ref a :: rest) (hsz : Ls.size = ml) (hf : rm.frames + 1 ≤ R.frames) (hl : (rest.map fun v => v.category).sum + (ml' + 11) + rm.locals ≤ R.locals) (hc : cn + rm.cells = cn') (hs : sn + rm.slots = sn') (hc' : cn' ≤ R.cells) (hs' : sn' ≤ R.slots) (hp : pc + 3 = pc')
    (g : ∀ v M', Q' v M' → Go Z k cn' sn' M' pc' Ls (v.toList ++ rest)) : Go Z k cn sn M pc Ls st := by
  obtain ⟨p, l, e, R', s, m, args, below, meth, c, Q''⟩ := k
  obtain ⟨hx, hZ, hby, hml, hown, hnm, -, -, ⟨a0, hw⟩, rfl, -⟩ := H
  subst hp hc hs hst
  intro T w
  obtain ⟨locs, X, F, OO⟩ := w
  obtain ⟨-, cl, c1, c2⟩ := OO.2.1 i _ hi
  obtain ⟨cl', d1, d2⟩ := (c2.1 _ _ c1).1.cell
  have hpriv : s.PrivateAt y' := Cond.privateMethod_at (mvP hZ (hw _ w2) (args := #[]))
  obtain ⟨mk, mM, hn, hm, hst, hab⟩ := Cond.instanceMethod_spec (mvT (args := #[]) hZ (hw _ w6))
  obtain ⟨c3, r3, m3, -, -, n3, -, kP, hk, hkI⟩ := Cond.selects_spec (mvT (args := #[]) hZ (hw _ w5))
  have e3 : m3.cls = mk.cls := by
    have u1 := findClass_of_methodNamed n3
    have u2 := findClass_of_methodNamed hn
    rw [h0, u2] at u1; exact (Option.some.inj u1).symm
  rw [e3] at hk
  obtain ⟨mM', cM, hm2, -, -, -, -, -, -, hsg⟩ := Cond.code_spec hn (mvT (args := #[]) hZ (hw _ w4))
  cases hm.symm.trans hm2
  obtain ⟨vm₁, X₁, st₁⟩ := X.invokevirtual hx hown (mvT hZ (hw _ w1)) hn hm hst hk hkI hy (a := a) d1 d2 (selectMethod_private hm (hpriv mk _ hn hm)) hm hab hk hkI (g := mkF m pc Ls (as.reverse ++ .ref a :: rest)) rfl (argsL := as) (rest := rest) (lenOf (ps := sig.parameters) (r := sig.returnType) hsig hlen _ hsg) rfl (hb hby hd)
  have hK := backOf (l := l) (p := p) (e := e) (below := below) (R := R') (args := args) (len := 3) (W := (rest.map fun v => v.category).sum) (Q := fun v h L => Fr Z.heap.size L ∧ ∃ M', Q' v M' ∧ Own Z h M') (hM l _ OO) hZ (hw _ w4) (hw _ w3) hf hl
  obtain ⟨v, ⟨T', L', k', n'⟩, X', ⟨Lc, ⟨hF, M', hQ, hO⟩, q1, q2, q3⟩, sg⟩ := hK m meth c ⟨T.setVm vm₁, locs, cn, sn⟩ (mkF m pc Ls rest) (.invokevirtual idx) mk (.ref a :: as).toArray X₁ rfl (by rw [hml]; exact hsz) (hb hby hd) (by show 2 * 0 + (rest.map fun v => v.category).sum ≤ _; omega) (X₁.named hn) ⟨rfl, rfl, hc', hs'⟩
  dsimp only [Pt.U, Pt.locs, Pt.cells, Pt.slots] at X' q1 q2 q3 sg hO
  subst q1 q2 q3
  obtain ⟨t, o, hs, r⟩ := g v M' hQ T' ⟨_, X', Fr.app F hF, hO⟩
  exact ⟨t, o, st₁ _ (fun acts => by rw [doInvoke_state]; exact sg.trans hs), r⟩
end Kit
theorem own_nat {m : Nat} (h : m < 2147483648) : m.toInt32.toNatClampNeg = m ∧ ¬ m.toInt32 < 0 ∧ m.toInt32.toInt = m := by
  have e : m.toInt32.toInt = m := Int32.toInt_ofNat_small (by omega)
  refine ⟨?_, ?_, e⟩
  · show m.toInt32.toInt.toNat = m
    rw [e]; rfl
  · rw [Int32.lt_iff_toInt_lt, e, show (0 : Int32).toInt = 0 from by decide]; omega
theorem own_lt {m n : Nat} (h : m < 2147483648) (h' : n < 2147483648) : m.toInt32 < n.toInt32 ↔ m < n := by rw [Int32.lt_iff_toInt_lt, (own_nat h).2.2, (own_nat h').2.2]; omega
theorem own_le {m n : Nat} (h : m < 2147483648) (h' : n < 2147483648) : m.toInt32 ≤ n.toInt32 ↔ m ≤ n := by rw [Int32.le_iff_toInt_le, (own_nat h).2.2, (own_nat h').2.2]; omega
theorem own_succ (m : Nat) : m.toInt32 + 1 = (m + 1).toInt32 := by
  show Int32.ofNat m + Int32.ofNat 1 = Int32.ofNat (m + 1)
  rw [← Int32.ofNat_add]
theorem allN {α : Type} {P : α → Prop} : ∀ x ∈ ([] : List α), P x := fun _ q => nomatch q
theorem allC {α : Type} {P : α → Prop} {z : α} {L : List α} (q : P z) (r : ∀ x ∈ L, P x) : ∀ x ∈ z :: L, P x := fun x h => (List.mem_cons.mp h).elim (fun u => u ▸ q) (r x)
abbrev y_1 : MethodName := ⟨"com/example/graupel/graupel/benchmark/CallTimeHistogram", "<init>", "()V"⟩
theorem d1_0 : decode prog_13_method_1_code 0 = .ok (.aload_n 0, 1) := by decide +kernel
theorem d1_1 : decode prog_13_method_1_code 1 = .ok (.invokespecial 3, 3) := by decide +kernel
theorem d1_4 : decode prog_13_method_1_code 4 = .ok (.aload_n 0, 1) := by decide +kernel
theorem d1_5 : decode prog_13_method_1_code 5 = .ok (.ldc2_w 11, 3) := by decide +kernel
theorem d1_8 : decode prog_13_method_1_code 8 = .ok (.invokestatic 13, 3) := by decide +kernel
theorem d1_11 : decode prog_13_method_1_code 11 = .ok (.iconst 1, 1) := by decide +kernel
theorem d1_12 : decode prog_13_method_1_code 12 = .ok (.iadd, 1) := by decide +kernel
theorem d1_13 : decode prog_13_method_1_code 13 = .ok (.newarray .long, 2) := by decide +kernel
theorem d1_15 : decode prog_13_method_1_code 15 = .ok (.putfield 17, 3) := by decide +kernel
theorem d1_18 : decode prog_13_method_1_code 18 = .ok (.return_, 1) := by decide +kernel
theorem pl_1 : plainFor y_1 = true := plainFor_of_name (by first | (simp [plainName, overriddenIn]; done) | decide +kernel)
theorem pd_1 : parseMethodDescriptor "()V" = some ⟨[], none⟩ := by decide +kernel
abbrev y_3 : MethodName := ⟨"com/example/graupel/graupel/benchmark/CallTimeHistogram", "bucket", "(J)I"⟩
theorem d3_0 : decode prog_13_method_6_code 0 = .ok (.lload_n 0, 1) := by decide +kernel
theorem d3_1 : decode prog_13_method_6_code 1 = .ok (.ldc2_w 52, 3) := by decide +kernel
theorem d3_4 : decode prog_13_method_6_code 4 = .ok (.lcmp, 1) := by decide +kernel
theorem d3_5 : decode prog_13_method_6_code 5 = .ok (.ifCond .ge 6, 3) := by decide +kernel
theorem d3_8 : decode prog_13_method_6_code 8 = .ok (.lload_n 0, 1) := by decide +kernel
theorem d3_9 : decode prog_13_method_6_code 9 = .ok (.l2i, 1) := by decide +kernel
theorem d3_10 : decode prog_13_method_6_code 10 = .ok (.ireturn, 1) := by decide +kernel
theorem d3_11 : decode prog_13_method_6_code 11 = .ok (.bipush 63, 2) := by decide +kernel
theorem d3_13 : decode prog_13_method_6_code 13 = .ok (.lload_n 0, 1) := by decide +kernel
theorem d3_14 : decode prog_13_method_6_code 14 = .ok (.invokestatic 54, 3) := by decide +kernel
theorem d3_17 : decode prog_13_method_6_code 17 = .ok (.isub, 1) := by decide +kernel
theorem d3_18 : decode prog_13_method_6_code 18 = .ok (.bipush 10, 2) := by decide +kernel
theorem d3_20 : decode prog_13_method_6_code 20 = .ok (.isub, 1) := by decide +kernel
theorem d3_21 : decode prog_13_method_6_code 21 = .ok (.istore_n 2, 1) := by decide +kernel
theorem d3_22 : decode prog_13_method_6_code 22 = .ok (.iload_n 2, 1) := by decide +kernel
theorem d3_23 : decode prog_13_method_6_code 23 = .ok (.bipush 10, 2) := by decide +kernel
theorem d3_25 : decode prog_13_method_6_code 25 = .ok (.ishl, 1) := by decide +kernel
theorem d3_26 : decode prog_13_method_6_code 26 = .ok (.lload_n 0, 1) := by decide +kernel
theorem d3_27 : decode prog_13_method_6_code 27 = .ok (.iload_n 2, 1) := by decide +kernel
theorem d3_28 : decode prog_13_method_6_code 28 = .ok (.lushr, 1) := by decide +kernel
theorem d3_29 : decode prog_13_method_6_code 29 = .ok (.l2i, 1) := by decide +kernel
theorem d3_30 : decode prog_13_method_6_code 30 = .ok (.iadd, 1) := by decide +kernel
theorem d3_31 : decode prog_13_method_6_code 31 = .ok (.ireturn, 1) := by decide +kernel
theorem pl_3 : plainFor y_3 = true := plainFor_of_name (by first | (simp [plainName, overriddenIn]; done) | decide +kernel)
theorem pd_3 : parseMethodDescriptor "(J)I" = some ⟨[.long], some .int⟩ := by decide +kernel
abbrev y_4 : MethodName := ⟨"java/lang/Long", "numberOfLeadingZeros", "(J)I"⟩
theorem d4_0 : decode jdk_35_method_48_code 0 = .ok (.lload_n 0, 1) := by decide +kernel
theorem d4_1 : decode jdk_35_method_48_code 1 = .ok (.bipush 32, 2) := by decide +kernel
theorem d4_3 : decode jdk_35_method_48_code 3 = .ok (.lushr, 1) := by decide +kernel
theorem d4_4 : decode jdk_35_method_48_code 4 = .ok (.l2i, 1) := by decide +kernel
theorem d4_5 : decode jdk_35_method_48_code 5 = .ok (.istore_n 2, 1) := by decide +kernel
theorem d4_6 : decode jdk_35_method_48_code 6 = .ok (.iload_n 2, 1) := by decide +kernel
theorem d4_7 : decode jdk_35_method_48_code 7 = .ok (.ifCond .ne 14, 3) := by decide +kernel
theorem d4_10 : decode jdk_35_method_48_code 10 = .ok (.bipush 32, 2) := by decide +kernel
theorem d4_12 : decode jdk_35_method_48_code 12 = .ok (.lload_n 0, 1) := by decide +kernel
theorem d4_13 : decode jdk_35_method_48_code 13 = .ok (.l2i, 1) := by decide +kernel
theorem d4_14 : decode jdk_35_method_48_code 14 = .ok (.invokestatic 308, 3) := by decide +kernel
theorem d4_17 : decode jdk_35_method_48_code 17 = .ok (.iadd, 1) := by decide +kernel
theorem d4_18 : decode jdk_35_method_48_code 18 = .ok (.goto 7, 3) := by decide +kernel
theorem d4_21 : decode jdk_35_method_48_code 21 = .ok (.iload_n 2, 1) := by decide +kernel
theorem d4_22 : decode jdk_35_method_48_code 22 = .ok (.invokestatic 308, 3) := by decide +kernel
theorem d4_25 : decode jdk_35_method_48_code 25 = .ok (.ireturn, 1) := by decide +kernel
theorem pl_4 : plainFor y_4 = true := plainFor_of_name (by first | (simp [plainName, overriddenIn]; done) | decide +kernel)
theorem pd_4 : parseMethodDescriptor "(J)I" = some ⟨[.long], some .int⟩ := by decide +kernel
abbrev y_5 : MethodName := ⟨"java/lang/Integer", "numberOfLeadingZeros", "(I)I"⟩
theorem d5_0 : decode jdk_33_method_47_code 0 = .ok (.iload_n 0, 1) := by decide +kernel
theorem d5_1 : decode jdk_33_method_47_code 1 = .ok (.ifCond .gt 14, 3) := by decide +kernel
theorem d5_4 : decode jdk_33_method_47_code 4 = .ok (.iload_n 0, 1) := by decide +kernel
theorem d5_5 : decode jdk_33_method_47_code 5 = .ok (.ifCond .ne 8, 3) := by decide +kernel
theorem d5_13 : decode jdk_33_method_47_code 13 = .ok (.iconst 0, 1) := by decide +kernel
theorem d5_14 : decode jdk_33_method_47_code 14 = .ok (.ireturn, 1) := by decide +kernel
theorem d5_15 : decode jdk_33_method_47_code 15 = .ok (.bipush 31, 2) := by decide +kernel
theorem d5_17 : decode jdk_33_method_47_code 17 = .ok (.istore_n 1, 1) := by decide +kernel
theorem d5_18 : decode jdk_33_method_47_code 18 = .ok (.iload_n 0, 1) := by decide +kernel
theorem d5_19 : decode jdk_33_method_47_code 19 = .ok (.ldc_w 264, 3) := by decide +kernel
theorem d5_22 : decode jdk_33_method_47_code 22 = .ok (.if_icmp .lt 11, 3) := by decide +kernel
theorem d5_25 : decode jdk_33_method_47_code 25 = .ok (.iinc 1 (-16), 3) := by decide +kernel
theorem d5_28 : decode jdk_33_method_47_code 28 = .ok (.iload_n 0, 1) := by decide +kernel
theorem d5_29 : decode jdk_33_method_47_code 29 = .ok (.bipush 16, 2) := by decide +kernel
theorem d5_31 : decode jdk_33_method_47_code 31 = .ok (.iushr, 1) := by decide +kernel
theorem d5_32 : decode jdk_33_method_47_code 32 = .ok (.istore_n 0, 1) := by decide +kernel
theorem d5_33 : decode jdk_33_method_47_code 33 = .ok (.iload_n 0, 1) := by decide +kernel
theorem d5_34 : decode jdk_33_method_47_code 34 = .ok (.sipush 256, 3) := by decide +kernel
theorem d5_37 : decode jdk_33_method_47_code 37 = .ok (.if_icmp .lt 11, 3) := by decide +kernel
theorem d5_40 : decode jdk_33_method_47_code 40 = .ok (.iinc 1 (-8), 3) := by decide +kernel
theorem d5_43 : decode jdk_33_method_47_code 43 = .ok (.iload_n 0, 1) := by decide +kernel
theorem d5_44 : decode jdk_33_method_47_code 44 = .ok (.bipush 8, 2) := by decide +kernel
theorem d5_46 : decode jdk_33_method_47_code 46 = .ok (.iushr, 1) := by decide +kernel
theorem d5_47 : decode jdk_33_method_47_code 47 = .ok (.istore_n 0, 1) := by decide +kernel
theorem d5_48 : decode jdk_33_method_47_code 48 = .ok (.iload_n 0, 1) := by decide +kernel
theorem d5_49 : decode jdk_33_method_47_code 49 = .ok (.bipush 16, 2) := by decide +kernel
theorem d5_51 : decode jdk_33_method_47_code 51 = .ok (.if_icmp .lt 10, 3) := by decide +kernel
theorem d5_54 : decode jdk_33_method_47_code 54 = .ok (.iinc 1 (-4), 3) := by decide +kernel
theorem d5_57 : decode jdk_33_method_47_code 57 = .ok (.iload_n 0, 1) := by decide +kernel
theorem d5_58 : decode jdk_33_method_47_code 58 = .ok (.iconst 4, 1) := by decide +kernel
theorem d5_59 : decode jdk_33_method_47_code 59 = .ok (.iushr, 1) := by decide +kernel
theorem d5_60 : decode jdk_33_method_47_code 60 = .ok (.istore_n 0, 1) := by decide +kernel
theorem d5_61 : decode jdk_33_method_47_code 61 = .ok (.iload_n 0, 1) := by decide +kernel
theorem d5_62 : decode jdk_33_method_47_code 62 = .ok (.iconst 4, 1) := by decide +kernel
theorem d5_63 : decode jdk_33_method_47_code 63 = .ok (.if_icmp .lt 10, 3) := by decide +kernel
theorem d5_66 : decode jdk_33_method_47_code 66 = .ok (.iinc 1 (-2), 3) := by decide +kernel
theorem d5_69 : decode jdk_33_method_47_code 69 = .ok (.iload_n 0, 1) := by decide +kernel
theorem d5_70 : decode jdk_33_method_47_code 70 = .ok (.iconst 2, 1) := by decide +kernel
theorem d5_71 : decode jdk_33_method_47_code 71 = .ok (.iushr, 1) := by decide +kernel
theorem d5_72 : decode jdk_33_method_47_code 72 = .ok (.istore_n 0, 1) := by decide +kernel
theorem d5_73 : decode jdk_33_method_47_code 73 = .ok (.iload_n 1, 1) := by decide +kernel
theorem d5_74 : decode jdk_33_method_47_code 74 = .ok (.iload_n 0, 1) := by decide +kernel
theorem d5_75 : decode jdk_33_method_47_code 75 = .ok (.iconst 1, 1) := by decide +kernel
theorem d5_76 : decode jdk_33_method_47_code 76 = .ok (.iushr, 1) := by decide +kernel
theorem d5_77 : decode jdk_33_method_47_code 77 = .ok (.isub, 1) := by decide +kernel
theorem d5_78 : decode jdk_33_method_47_code 78 = .ok (.ireturn, 1) := by decide +kernel
theorem pl_5 : plainFor y_5 = true := plainFor_of_name (by first | (simp [plainName, overriddenIn]; done) | decide +kernel)
theorem pd_5 : parseMethodDescriptor "(I)I" = some ⟨[.int], some .int⟩ := by decide +kernel
abbrev y_6 : MethodName := ⟨"com/example/graupel/graupel/benchmark/CallTimeHistogram", "add", "(Lcom/example/graupel/graupel/benchmark/CallTimeHistogram;)V"⟩
theorem d6_0 : decode prog_13_method_3_code 0 = .ok (.iconst 0, 1) := by decide +kernel
theorem d6_1 : decode prog_13_method_3_code 1 = .ok (.istore_n 2, 1) := by decide +kernel
theorem d6_2 : decode prog_13_method_3_code 2 = .ok (.iload_n 2, 1) := by decide +kernel
theorem d6_3 : decode prog_13_method_3_code 3 = .ok (.aload_n 0, 1) := by decide +kernel
theorem d6_4 : decode prog_13_method_3_code 4 = .ok (.getfield 17, 3) := by decide +kernel
theorem d6_7 : decode prog_13_method_3_code 7 = .ok (.arraylength, 1) := by decide +kernel
theorem d6_8 : decode prog_13_method_3_code 8 = .ok (.if_icmp .ge 24, 3) := by decide +kernel
theorem d6_11 : decode prog_13_method_3_code 11 = .ok (.aload_n 0, 1) := by decide +kernel
theorem d6_12 : decode prog_13_method_3_code 12 = .ok (.getfield 17, 3) := by decide +kernel
theorem d6_15 : decode prog_13_method_3_code 15 = .ok (.iload_n 2, 1) := by decide +kernel
theorem d6_16 : decode prog_13_method_3_code 16 = .ok (.dup2, 1) := by decide +kernel
theorem d6_17 : decode prog_13_method_3_code 17 = .ok (.laload, 1) := by decide +kernel
theorem d6_18 : decode prog_13_method_3_code 18 = .ok (.aload_n 1, 1) := by decide +kernel
theorem d6_19 : decode prog_13_method_3_code 19 = .ok (.getfield 17, 3) := by decide +kernel
theorem d6_22 : decode prog_13_method_3_code 22 = .ok (.iload_n 2, 1) := by decide +kernel
theorem d6_23 : decode prog_13_method_3_code 23 = .ok (.laload, 1) := by decide +kernel
theorem d6_24 : decode prog_13_method_3_code 24 = .ok (.ladd, 1) := by decide +kernel
theorem d6_25 : decode prog_13_method_3_code 25 = .ok (.lastore, 1) := by decide +kernel
theorem d6_26 : decode prog_13_method_3_code 26 = .ok (.iinc 2 1, 3) := by decide +kernel
theorem d6_29 : decode prog_13_method_3_code 29 = .ok (.goto (-27), 3) := by decide +kernel
theorem d6_32 : decode prog_13_method_3_code 32 = .ok (.aload_n 0, 1) := by decide +kernel
theorem d6_33 : decode prog_13_method_3_code 33 = .ok (.dup, 1) := by decide +kernel
theorem d6_34 : decode prog_13_method_3_code 34 = .ok (.getfield 30, 3) := by decide +kernel
theorem d6_37 : decode prog_13_method_3_code 37 = .ok (.aload_n 1, 1) := by decide +kernel
theorem d6_38 : decode prog_13_method_3_code 38 = .ok (.getfield 30, 3) := by decide +kernel
theorem d6_41 : decode prog_13_method_3_code 41 = .ok (.ladd, 1) := by decide +kernel
theorem d6_42 : decode prog_13_method_3_code 42 = .ok (.putfield 30, 3) := by decide +kernel
theorem d6_45 : decode prog_13_method_3_code 45 = .ok (.return_, 1) := by decide +kernel
theorem pl_6 : plainFor y_6 = true := plainFor_of_name (by first | (simp [plainName, overriddenIn]; done) | decide +kernel)
theorem pd_6 : parseMethodDescriptor "(Lcom/example/graupel/graupel/benchmark/CallTimeHistogram;)V" = some ⟨[(.object "com/example/graupel/graupel/benchmark/CallTimeHistogram")], none⟩ := by decide +kernel
abbrev y_7 : MethodName := ⟨"com/example/graupel/graupel/benchmark/CallTimeHistogram", "count", "()J"⟩
theorem d7_0 : decode prog_13_method_4_code 0 = .ok (.aload_n 0, 1) := by decide +kernel
theorem d7_1 : decode prog_13_method_4_code 1 = .ok (.getfield 30, 3) := by decide +kernel
theorem d7_4 : decode prog_13_method_4_code 4 = .ok (.lreturn, 1) := by decide +kernel
theorem pl_7 : plainFor y_7 = true := plainFor_of_name (by first | (simp [plainName, overriddenIn]; done) | decide +kernel)
theorem pd_7 : parseMethodDescriptor "()J" = some ⟨[], some .long⟩ := by decide +kernel
abbrev y_8 : MethodName := ⟨"com/example/graupel/graupel/benchmark/CallTimeHistogram", "record", "(J)V"⟩
theorem d8_0 : decode prog_13_method_2_code 0 = .ok (.lload_n 1, 1) := by decide +kernel
theorem d8_1 : decode prog_13_method_2_code 1 = .ok (.lconst 0, 1) := by decide +kernel
theorem d8_2 : decode prog_13_method_2_code 2 = .ok (.lcmp, 1) := by decide +kernel
theorem d8_3 : decode prog_13_method_2_code 3 = .ok (.ifCond .ge 17, 3) := by decide +kernel
theorem d8_20 : decode prog_13_method_2_code 20 = .ok (.aload_n 0, 1) := by decide +kernel
theorem d8_21 : decode prog_13_method_2_code 21 = .ok (.getfield 17, 3) := by decide +kernel
theorem d8_24 : decode prog_13_method_2_code 24 = .ok (.lload_n 1, 1) := by decide +kernel
theorem d8_25 : decode prog_13_method_2_code 25 = .ok (.invokestatic 13, 3) := by decide +kernel
theorem d8_28 : decode prog_13_method_2_code 28 = .ok (.dup2, 1) := by decide +kernel
theorem d8_29 : decode prog_13_method_2_code 29 = .ok (.laload, 1) := by decide +kernel
theorem d8_30 : decode prog_13_method_2_code 30 = .ok (.lconst 1, 1) := by decide +kernel
theorem d8_31 : decode prog_13_method_2_code 31 = .ok (.ladd, 1) := by decide +kernel
theorem d8_32 : decode prog_13_method_2_code 32 = .ok (.lastore, 1) := by decide +kernel
theorem d8_33 : decode prog_13_method_2_code 33 = .ok (.aload_n 0, 1) := by decide +kernel
theorem d8_34 : decode prog_13_method_2_code 34 = .ok (.dup, 1) := by decide +kernel
theorem d8_35 : decode prog_13_method_2_code 35 = .ok (.getfield 30, 3) := by decide +kernel
theorem d8_38 : decode prog_13_method_2_code 38 = .ok (.lconst 1, 1) := by decide +kernel
theorem d8_39 : decode prog_13_method_2_code 39 = .ok (.ladd, 1) := by decide +kernel
theorem d8_40 : decode prog_13_method_2_code 40 = .ok (.putfield 30, 3) := by decide +kernel
theorem d8_43 : decode prog_13_method_2_code 43 = .ok (.return_, 1) := by decide +kernel
theorem pl_8 : plainFor y_8 = true := plainFor_of_name (by first | (simp [plainName, overriddenIn]; done) | decide +kernel)
theorem pd_8 : parseMethodDescriptor "(J)V" = some ⟨[.long], none⟩ := by decide +kernel
abbrev y_9 : MethodName := ⟨"com/example/graupel/graupel/benchmark/CallTimeHistogram", "quantile", "(JJ)J"⟩
theorem d9_0 : decode prog_13_method_5_code 0 = .ok (.lload_n 1, 1) := by decide +kernel
theorem d9_1 : decode prog_13_method_5_code 1 = .ok (.lconst 1, 1) := by decide +kernel
theorem d9_2 : decode prog_13_method_5_code 2 = .ok (.lcmp, 1) := by decide +kernel
theorem d9_3 : decode prog_13_method_5_code 3 = .ok (.ifCond .lt 9, 3) := by decide +kernel
theorem d9_6 : decode prog_13_method_5_code 6 = .ok (.lload_n 1, 1) := by decide +kernel
theorem d9_7 : decode prog_13_method_5_code 7 = .ok (.lload_n 3, 1) := by decide +kernel
theorem d9_8 : decode prog_13_method_5_code 8 = .ok (.lcmp, 1) := by decide +kernel
theorem d9_9 : decode prog_13_method_5_code 9 = .ok (.ifCond .le 18, 3) := by decide +kernel
theorem d9_27 : decode prog_13_method_5_code 27 = .ok (.aload_n 0, 1) := by decide +kernel
theorem d9_28 : decode prog_13_method_5_code 28 = .ok (.getfield 30, 3) := by decide +kernel
theorem d9_31 : decode prog_13_method_5_code 31 = .ok (.lconst 0, 1) := by decide +kernel
theorem d9_32 : decode prog_13_method_5_code 32 = .ok (.lcmp, 1) := by decide +kernel
theorem d9_33 : decode prog_13_method_5_code 33 = .ok (.ifCond .ne 13, 3) := by decide +kernel
theorem d9_46 : decode prog_13_method_5_code 46 = .ok (.lload_n 1, 1) := by decide +kernel
theorem d9_47 : decode prog_13_method_5_code 47 = .ok (.aload_n 0, 1) := by decide +kernel
theorem d9_48 : decode prog_13_method_5_code 48 = .ok (.getfield 30, 3) := by decide +kernel
theorem d9_51 : decode prog_13_method_5_code 51 = .ok (.invokestatic 42, 3) := by decide +kernel
theorem d9_54 : decode prog_13_method_5_code 54 = .ok (.lload_n 3, 1) := by decide +kernel
theorem d9_55 : decode prog_13_method_5_code 55 = .ok (.ladd, 1) := by decide +kernel
theorem d9_56 : decode prog_13_method_5_code 56 = .ok (.lconst 1, 1) := by decide +kernel
theorem d9_57 : decode prog_13_method_5_code 57 = .ok (.lsub, 1) := by decide +kernel
theorem d9_58 : decode prog_13_method_5_code 58 = .ok (.lload_n 3, 1) := by decide +kernel
theorem d9_59 : decode prog_13_method_5_code 59 = .ok (.ldiv, 1) := by decide +kernel
theorem d9_60 : decode prog_13_method_5_code 60 = .ok (.lstore 5, 2) := by decide +kernel
theorem d9_62 : decode prog_13_method_5_code 62 = .ok (.lconst 0, 1) := by decide +kernel
theorem d9_63 : decode prog_13_method_5_code 63 = .ok (.lstore 7, 2) := by decide +kernel
theorem d9_65 : decode prog_13_method_5_code 65 = .ok (.iconst 0, 1) := by decide +kernel
theorem d9_66 : decode prog_13_method_5_code 66 = .ok (.istore 9, 2) := by decide +kernel
theorem d9_68 : decode prog_13_method_5_code 68 = .ok (.lload 7, 2) := by decide +kernel
theorem d9_70 : decode prog_13_method_5_code 70 = .ok (.aload_n 0, 1) := by decide +kernel
theorem d9_71 : decode prog_13_method_5_code 71 = .ok (.getfield 17, 3) := by decide +kernel
theorem d9_74 : decode prog_13_method_5_code 74 = .ok (.iload 9, 2) := by decide +kernel
theorem d9_76 : decode prog_13_method_5_code 76 = .ok (.laload, 1) := by decide +kernel
theorem d9_77 : decode prog_13_method_5_code 77 = .ok (.ladd, 1) := by decide +kernel
theorem d9_78 : decode prog_13_method_5_code 78 = .ok (.lload 5, 2) := by decide +kernel
theorem d9_80 : decode prog_13_method_5_code 80 = .ok (.lcmp, 1) := by decide +kernel
theorem d9_81 : decode prog_13_method_5_code 81 = .ok (.ifCond .ge 21, 3) := by decide +kernel
theorem d9_84 : decode prog_13_method_5_code 84 = .ok (.lload 7, 2) := by decide +kernel
theorem d9_86 : decode prog_13_method_5_code 86 = .ok (.aload_n 0, 1) := by decide +kernel
theorem d9_87 : decode prog_13_method_5_code 87 = .ok (.getfield 17, 3) := by decide +kernel
theorem d9_90 : decode prog_13_method_5_code 90 = .ok (.iload 9, 2) := by decide +kernel
theorem d9_92 : decode prog_13_method_5_code 92 = .ok (.laload, 1) := by decide +kernel
theorem d9_93 : decode prog_13_method_5_code 93 = .ok (.ladd, 1) := by decide +kernel
theorem d9_94 : decode prog_13_method_5_code 94 = .ok (.lstore 7, 2) := by decide +kernel
theorem d9_96 : decode prog_13_method_5_code 96 = .ok (.iinc 9 1, 3) := by decide +kernel
theorem d9_99 : decode prog_13_method_5_code 99 = .ok (.goto (-31), 3) := by decide +kernel
theorem d9_102 : decode prog_13_method_5_code 102 = .ok (.iload 9, 2) := by decide +kernel
theorem d9_104 : decode prog_13_method_5_code 104 = .ok (.invokestatic 48, 3) := by decide +kernel
theorem d9_107 : decode prog_13_method_5_code 107 = .ok (.lreturn, 1) := by decide +kernel
theorem pl_9 : plainFor y_9 = true := plainFor_of_name (by first | (simp [plainName, overriddenIn]; done) | decide +kernel)
theorem pd_9 : parseMethodDescriptor "(JJ)J" = some ⟨[.long, .long], some .long⟩ := by decide +kernel
abbrev y_10 : MethodName := ⟨"java/lang/Math", "multiplyExact", "(JJ)J"⟩
theorem d10_0 : decode jdk_29_method_30_code 0 = .ok (.lload_n 0, 1) := by decide +kernel
theorem d10_1 : decode jdk_29_method_30_code 1 = .ok (.lload_n 2, 1) := by decide +kernel
theorem d10_2 : decode jdk_29_method_30_code 2 = .ok (.lmul, 1) := by decide +kernel
theorem d10_3 : decode jdk_29_method_30_code 3 = .ok (.lstore 4, 2) := by decide +kernel
theorem d10_5 : decode jdk_29_method_30_code 5 = .ok (.lload_n 0, 1) := by decide +kernel
theorem d10_6 : decode jdk_29_method_30_code 6 = .ok (.invokestatic 122, 3) := by decide +kernel
theorem d10_9 : decode jdk_29_method_30_code 9 = .ok (.lstore 6, 2) := by decide +kernel
theorem d10_11 : decode jdk_29_method_30_code 11 = .ok (.lload_n 2, 1) := by decide +kernel
theorem d10_12 : decode jdk_29_method_30_code 12 = .ok (.invokestatic 122, 3) := by decide +kernel
theorem d10_15 : decode jdk_29_method_30_code 15 = .ok (.lstore 8, 2) := by decide +kernel
theorem d10_17 : decode jdk_29_method_30_code 17 = .ok (.lload 6, 2) := by decide +kernel
theorem d10_19 : decode jdk_29_method_30_code 19 = .ok (.lload 8, 2) := by decide +kernel
theorem d10_21 : decode jdk_29_method_30_code 21 = .ok (.lor, 1) := by decide +kernel
theorem d10_22 : decode jdk_29_method_30_code 22 = .ok (.bipush 31, 2) := by decide +kernel
theorem d10_24 : decode jdk_29_method_30_code 24 = .ok (.lushr, 1) := by decide +kernel
theorem d10_25 : decode jdk_29_method_30_code 25 = .ok (.lconst 0, 1) := by decide +kernel
theorem d10_26 : decode jdk_29_method_30_code 26 = .ok (.lcmp, 1) := by decide +kernel
theorem d10_27 : decode jdk_29_method_30_code 27 = .ok (.ifCond .eq 44, 3) := by decide +kernel
theorem d10_71 : decode jdk_29_method_30_code 71 = .ok (.lload 4, 2) := by decide +kernel
theorem d10_73 : decode jdk_29_method_30_code 73 = .ok (.lreturn, 1) := by decide +kernel
theorem pl_10 : plainFor y_10 = true := Jvm.Free.JP.mathPlain rfl (by decide +kernel)
theorem pd_10 : parseMethodDescriptor "(JJ)J" = some ⟨[.long, .long], some .long⟩ := by decide +kernel
abbrev y_11 : MethodName := ⟨"java/lang/Math", "abs", "(J)J"⟩
theorem d11_0 : decode jdk_29_method_61_code 0 = .ok (.lload_n 0, 1) := by decide +kernel
theorem d11_1 : decode jdk_29_method_61_code 1 = .ok (.lconst 0, 1) := by decide +kernel
theorem d11_2 : decode jdk_29_method_61_code 2 = .ok (.lcmp, 1) := by decide +kernel
theorem d11_3 : decode jdk_29_method_61_code 3 = .ok (.ifCond .ge 8, 3) := by decide +kernel
theorem d11_11 : decode jdk_29_method_61_code 11 = .ok (.lload_n 0, 1) := by decide +kernel
theorem d11_12 : decode jdk_29_method_61_code 12 = .ok (.lreturn, 1) := by decide +kernel
theorem pl_11 : plainFor y_11 = true := Jvm.Free.JP.mathPlain rfl (by decide +kernel)
theorem pd_11 : parseMethodDescriptor "(J)J" = some ⟨[.long], some .long⟩ := by decide +kernel
abbrev y_12 : MethodName := ⟨"com/example/graupel/graupel/benchmark/CallTimeHistogram", "highest", "(I)J"⟩
theorem d12_0 : decode prog_13_method_7_code 0 = .ok (.iload_n 0, 1) := by decide +kernel
theorem d12_1 : decode prog_13_method_7_code 1 = .ok (.sipush 2048, 3) := by decide +kernel
theorem d12_4 : decode prog_13_method_7_code 4 = .ok (.if_icmp .ge 6, 3) := by decide +kernel
theorem d12_7 : decode prog_13_method_7_code 7 = .ok (.iload_n 0, 1) := by decide +kernel
theorem d12_8 : decode prog_13_method_7_code 8 = .ok (.i2l, 1) := by decide +kernel
theorem d12_9 : decode prog_13_method_7_code 9 = .ok (.lreturn, 1) := by decide +kernel
theorem d12_10 : decode prog_13_method_7_code 10 = .ok (.iload_n 0, 1) := by decide +kernel
theorem d12_11 : decode prog_13_method_7_code 11 = .ok (.bipush 10, 2) := by decide +kernel
theorem d12_13 : decode prog_13_method_7_code 13 = .ok (.iushr, 1) := by decide +kernel
theorem d12_14 : decode prog_13_method_7_code 14 = .ok (.iconst 1, 1) := by decide +kernel
theorem d12_15 : decode prog_13_method_7_code 15 = .ok (.isub, 1) := by decide +kernel
theorem d12_16 : decode prog_13_method_7_code 16 = .ok (.istore_n 1, 1) := by decide +kernel
theorem d12_17 : decode prog_13_method_7_code 17 = .ok (.iload_n 0, 1) := by decide +kernel
theorem d12_18 : decode prog_13_method_7_code 18 = .ok (.i2l, 1) := by decide +kernel
theorem d12_19 : decode prog_13_method_7_code 19 = .ok (.iload_n 1, 1) := by decide +kernel
theorem d12_20 : decode prog_13_method_7_code 20 = .ok (.i2l, 1) := by decide +kernel
theorem d12_21 : decode prog_13_method_7_code 21 = .ok (.bipush 10, 2) := by decide +kernel
theorem d12_23 : decode prog_13_method_7_code 23 = .ok (.lshl, 1) := by decide +kernel
theorem d12_24 : decode prog_13_method_7_code 24 = .ok (.lsub, 1) := by decide +kernel
theorem d12_25 : decode prog_13_method_7_code 25 = .ok (.lstore_n 2, 1) := by decide +kernel
theorem d12_26 : decode prog_13_method_7_code 26 = .ok (.lload_n 2, 1) := by decide +kernel
theorem d12_27 : decode prog_13_method_7_code 27 = .ok (.lconst 1, 1) := by decide +kernel
theorem d12_28 : decode prog_13_method_7_code 28 = .ok (.ladd, 1) := by decide +kernel
theorem d12_29 : decode prog_13_method_7_code 29 = .ok (.iload_n 1, 1) := by decide +kernel
theorem d12_30 : decode prog_13_method_7_code 30 = .ok (.lshl, 1) := by decide +kernel
theorem d12_31 : decode prog_13_method_7_code 31 = .ok (.lconst 1, 1) := by decide +kernel
theorem d12_32 : decode prog_13_method_7_code 32 = .ok (.lsub, 1) := by decide +kernel
theorem d12_33 : decode prog_13_method_7_code 33 = .ok (.lreturn, 1) := by decide +kernel
theorem pl_12 : plainFor y_12 = true := plainFor_of_name (by first | (simp [plainName, overriddenIn]; done) | decide +kernel)
theorem pd_12 : parseMethodDescriptor "(I)J" = some ⟨[.int], some .long⟩ := by decide +kernel
def LQ : Option Value → Hp → Prop := fun v _ => v = some (.int 1)
theorem own_addN (m n : Nat) : m.toInt32 + n.toInt32 = (m + n).toInt32 := (Int32.ofNat_add m n).symm
theorem own_subN {m n : Nat} (h : n ≤ m) (hm : m < 2147483648) : m.toInt32 - n.toInt32 = (m - n).toInt32 := by
  apply Int32.toInt_inj.mp
  have s := c_isub m.toInt32 n.toInt32
  have r := rng32 (m.toInt32 - n.toInt32)
  rw [(own_nat hm).2.2, (own_nat (by omega)).2.2] at s
  rw [(own_nat (m := m - n) (by omega)).2.2]
  omega
theorem own_modN {m n : Nat} (hm : m < 2147483648) (hn : n < 2147483648) : m.toInt32 % n.toInt32 = (m % n).toInt32 := by
  have : m % n ≤ m := Nat.mod_le m n
  apply Int32.toInt_inj.mp
  rw [Int32.toInt_mod, (own_nat hm).2.2, (own_nat hn).2.2, (own_nat (by omega)).2.2, Int.tmod_eq_emod_of_nonneg (by omega)]
  rfl
theorem own_inj {m n : Nat} (h : m < 2147483648) (h' : n < 2147483648) : m.toInt32 = n.toInt32 ↔ m = n := ⟨fun e => by have := congrArg Int32.toInt e; rw [(own_nat h).2.2, (own_nat h').2.2] at this; omega, fun e => by rw [e]⟩
theorem own_ne0 {n : Nat} (h : 0 < n) (h' : n < 2147483648) : n.toInt32 ≠ 0 := fun e => by
  have := (own_inj h' (by decide : 0 < 2147483648)).mp e
  omega
theorem ll_nat {m : Nat} (h : m < 9223372036854775808) : m.toInt64.toInt = m := Int64.toInt_ofNat_of_lt (by omega)
theorem ll_add (a b : Nat) : a.toInt64 + b.toInt64 = (a + b).toInt64 := (Int64.ofNat_add a b).symm
theorem ll_lt {a b : Nat} (ha : a < 9223372036854775808) (hb : b < 9223372036854775808) : a.toInt64 < b.toInt64 ↔ a < b := by rw [Int64.lt_iff_toInt_lt, ll_nat ha, ll_nat hb]; omega
theorem ll_le {a b : Nat} (ha : a < 9223372036854775808) (hb : b < 9223372036854775808) : a.toInt64 ≤ b.toInt64 ↔ a ≤ b := by rw [Int64.le_iff_toInt_le, ll_nat ha, ll_nat hb]; omega
theorem ll_inj {a b : Nat} (ha : a < 9223372036854775808) (hb : b < 9223372036854775808) : a.toInt64 = b.toInt64 ↔ a = b := ⟨fun e => by have := congrArg Int64.toInt e; rw [ll_nat ha, ll_nat hb] at this; omega, fun e => by rw [e]⟩
theorem ll_pred {m : Nat} (h : 1 ≤ m) : m.toInt64 - 1 = (m - 1).toInt64 := by
  apply Int64.toBitVec_inj.mp
  show BitVec.ofNat 64 m - BitVec.ofNat 64 1 = BitVec.ofNat 64 (m - 1)
  apply BitVec.eq_of_toNat_eq
  simp only [BitVec.toNat_sub, BitVec.toNat_ofNat]
  omega
theorem ll_amt {k : Nat} (h : k < 64) : ((k.toInt32 &&& 0x3f).toInt64).toBitVec = BitVec.ofNat 64 k := by
  have hk : k.toInt32.toBitVec.toNat % 64 = k := by
    show (BitVec.ofNat 32 k).toNat % 64 = k
    rw [BitVec.toNat_ofNat]; omega
  exact (sm64 k.toInt32 k hk).1
theorem ll_shl {m k : Nat} (h : k < 64) : m.toInt64 <<< (k.toInt32 &&& 0x3f).toInt64 = (m * 2 ^ k).toInt64 := by
  apply Int64.toBitVec_inj.mp
  show BitVec.ofNat 64 m <<< (((k.toInt32 &&& 0x3f).toInt64).toBitVec.smod 64) = BitVec.ofNat 64 (m * 2 ^ k)
  rw [ll_amt h, BitVec.shiftLeft_eq', smod64 k h]
  apply BitVec.eq_of_toNat_eq
  simp only [BitVec.toNat_shiftLeft, BitVec.toNat_ofNat, Nat.shiftLeft_eq]
  rw [Nat.mod_mul_mod]
theorem ll_ushr {m k : Nat} (hm : m < 9223372036854775808) (h : k < 64) : ((m.toInt64.toUInt64 >>> (k.toInt32 &&& 0x3f).toInt64.toUInt64).toInt64) = (m / 2 ^ k).toInt64 := by
  apply Int64.toBitVec_inj.mp
  show (m.toInt64.toUInt64 >>> (k.toInt32 &&& 0x3f).toInt64.toUInt64).toBitVec = BitVec.ofNat 64 (m / 2 ^ k)
  rw [UInt64.toBitVec_shiftRight]
  show BitVec.ofNat 64 m >>> ((k.toInt32 &&& 0x3f).toInt64.toBitVec % 64) = _
  rw [ll_amt h, BitVec.ushiftRight_eq']
  apply BitVec.eq_of_toNat_eq
  have e : (BitVec.ofNat 64 k % (64 : BitVec 64)).toNat = k := by
    rw [BitVec.toNat_umod, BitVec.toNat_ofNat]; simp; omega
  rw [BitVec.toNat_ushiftRight, e, BitVec.toNat_ofNat, BitVec.toNat_ofNat, Nat.shiftRight_eq_div_pow, Nat.mod_eq_of_lt (by omega : m < 2 ^ 64)]
  have : m / 2 ^ k ≤ m := Nat.div_le_self _ _
  rw [Nat.mod_eq_of_lt (by omega)]
theorem ll_or (a b : Nat) : a.toInt64 ||| b.toInt64 = (a ||| b).toInt64 := by
  apply Int64.toBitVec_inj.mp
  show BitVec.ofNat 64 a ||| BitVec.ofNat 64 b = BitVec.ofNat 64 (a ||| b)
  rw [BitVec.ofNat_or]
theorem ll_l2i (m : Nat) : m.toInt64.toInt32 = m.toInt32 := by
  apply Int32.toBitVec_inj.mp
  show (BitVec.ofNat 64 m).signExtend 32 = BitVec.ofNat 32 m
  apply BitVec.eq_of_toNat_eq
  rw [BitVec.signExtend_eq_setWidth_of_le _ (by decide), BitVec.toNat_setWidth, BitVec.toNat_ofNat, BitVec.toNat_ofNat]
  omega
theorem ll_i2l {m : Nat} (h : m < 2147483648) : m.toInt32.toInt64 = m.toInt64 := by
  apply Int64.toInt_inj.mp
  rw [c_i2l, (own_nat h).2.2, ll_nat (by omega)]
theorem own_iush {m k : Nat} (hm : m < 2147483648) (h0 : 0 < k) (h : k < 32) : (m.toInt32.toUInt32 >>> (k.toInt32 &&& 31).toUInt32).toInt32 = (m / 2 ^ k).toInt32 := by
  have hk : k.toInt32.toBitVec.toNat % 32 = k := by
    show (BitVec.ofNat 32 k).toNat % 32 = k
    rw [BitVec.toNat_ofNat]; omega
  have : m / 2 ^ k ≤ m := Nat.div_le_self _ _
  apply Int32.toInt_inj.mp
  rw [c_iushr m.toInt32 k.toInt32 k hk h0, (own_nat hm).2.2, (own_nat (by omega)).2.2]
  rw [Int.emod_eq_of_lt (by omega) (by omega)]; rfl
theorem own_ishl10 {m : Nat} (h : m < 1000) : m.toInt32 <<< ((10 : Int32) &&& 31) = (m * 1024).toInt32 := by
  apply Int32.toInt_inj.mp
  have s := c_ishl m.toInt32 10 10 (by decide)
  have r := rng32 (m.toInt32 <<< ((10 : Int32) &&& 31))
  rw [(own_nat (by omega)).2.2] at s
  rw [(own_nat (by omega)).2.2]
  simp only [show ((2 ^ 10 : Nat) : Int) = 1024 from by decide] at s
  omega
/-! the histogram in plain numbers -/
def bk (n : Nat) : Nat := if n < 2048 then n else (n.log2 - 10) * 1024 + n / 2 ^ (n.log2 - 10)
def hg (b : Nat) : Nat := if b < 2048 then b else ((b - (b / 1024 - 1) * 1024) + 1) * 2 ^ (b / 1024 - 1) - 1
theorem lg_of {n L : Nat} (h1 : 2 ^ L ≤ n) (h2 : n < 2 ^ (L + 1)) : n.log2 = L := by
  have hn : n ≠ 0 := by have := Nat.two_pow_pos L; omega
  apply Nat.le_antisymm
  · have := (Nat.log2_lt hn).mpr h2; omega
  · exact (Nat.le_log2 hn).mpr h1
theorem lg_sp {n : Nat} (hn : n ≠ 0) : 2 ^ n.log2 ≤ n ∧ n < 2 ^ (n.log2 + 1) := ⟨Nat.log2_self_le hn, Nat.lt_log2_self⟩
theorem lg_ge {n : Nat} (h : 2048 ≤ n) : 11 ≤ n.log2 := (Nat.le_log2 (by omega)).mpr (by simpa using h)
theorem lg_lt {n : Nat} (h : n < 9223372036854775808) (h0 : n ≠ 0) : n.log2 ≤ 62 := by
  have := (Nat.log2_lt (k := 63) h0).mpr (by simpa using h); omega
theorem bk_mid {n : Nat} (h : 2048 ≤ n) : 1024 ≤ n / 2 ^ (n.log2 - 10) ∧ n / 2 ^ (n.log2 - 10) < 2048 := by
  obtain ⟨a1, a2⟩ := lg_sp (n := n) (by omega)
  have g := lg_ge h
  have e1 : 2 ^ n.log2 = 1024 * 2 ^ (n.log2 - 10) := by
    rw [show (1024 : Nat) = 2 ^ 10 from by decide, ← Nat.pow_add]; congr 1; omega
  have e2 : 2 ^ (n.log2 + 1) = 2048 * 2 ^ (n.log2 - 10) := by rw [Nat.pow_succ, e1]; omega
  have pp := Nat.two_pow_pos (n.log2 - 10)
  exact ⟨(Nat.le_div_iff_mul_le pp).mpr (by omega), (Nat.div_lt_iff_lt_mul pp).mpr (by omega)⟩
theorem bk_lt {n : Nat} (h : n < 9223372036854775808) : bk n < 55296 := by
  unfold bk
  split
  · omega
  · rename_i q
    have := bk_mid (n := n) (by omega)
    have := lg_lt h (by omega)
    omega
theorem bk_mono {m n : Nat} (h : m ≤ n) : bk m ≤ bk n := by
  unfold bk
  split
  · split
    · exact h
    · rename_i q1 q2
      have := bk_mid (n := n) (by omega)
      have := lg_ge (n := n) (by omega)
      omega
  · rename_i q1
    rw [if_neg (by omega : ¬ n < 2048)]
    have b1 := bk_mid (n := m) (by omega)
    have b2 := bk_mid (n := n) (by omega)
    have g1 := lg_ge (n := m) (by omega)
    have le : m.log2 ≤ n.log2 := (Nat.le_log2 (by omega)).mpr (Nat.le_trans (lg_sp (n := m) (by omega)).1 h)
    rcases Nat.lt_or_ge m.log2 n.log2 with lt | ge
    · omega
    · have e : m.log2 = n.log2 := by omega
      rw [e]
      have := Nat.div_le_div_right (c := 2 ^ (n.log2 - 10)) h
      omega
theorem hg_bk {n : Nat} (h : 2048 ≤ n) : hg (bk n) = (n / 2 ^ (n.log2 - 10) + 1) * 2 ^ (n.log2 - 10) - 1 := by
  have b := bk_mid h
  have g := lg_ge h
  unfold hg bk
  rw [if_neg (by omega : ¬ n < 2048), if_neg (by omega)]
  have e : ((n.log2 - 10) * 1024 + n / 2 ^ (n.log2 - 10)) / 1024 - 1 = n.log2 - 10 := by omega
  rw [e]
  congr 2
  omega
theorem hg_small {n : Nat} (h : n < 2048) : hg (bk n) = n := by
  unfold hg bk; rw [if_pos h, if_pos h]
theorem pw_lt {N L w : Nat} (h1 : 2 ^ L ≤ N) (hw : N < 2 ^ w) : L < w := (Nat.pow_lt_pow_iff_right (by decide : 1 < 2)).mp (Nat.lt_of_le_of_lt h1 hw)
theorem pw_le {N L w : Nat} (h2 : N < 2 ^ (L + 1)) (hw : 2 ^ w ≤ N) : w ≤ L := Nat.le_of_lt_succ ((Nat.pow_lt_pow_iff_right (by decide : 1 < 2)).mp (Nat.lt_of_le_of_lt hw h2))
theorem pw_div {N L w : Nat} (h1 : 2 ^ L ≤ N) (h2 : N < 2 ^ (L + 1)) (hw : w ≤ L) : 2 ^ (L - w) ≤ N / 2 ^ w ∧ N / 2 ^ w < 2 ^ (L - w + 1) := by
  have pp := Nat.two_pow_pos w
  have e1 : 2 ^ L = 2 ^ (L - w) * 2 ^ w := by rw [← Nat.pow_add]; congr 1; omega
  have e2 : 2 ^ (L + 1) = 2 ^ (L - w + 1) * 2 ^ w := by rw [← Nat.pow_add]; congr 1; omega
  exact ⟨(Nat.le_div_iff_mul_le pp).mpr (by omega), (Nat.div_lt_iff_lt_mul pp).mpr (by omega)⟩
theorem own_neg32 {n : Nat} (h : 2147483648 ≤ n) (h' : n < 4294967296) : n.toInt32 < 0 := by
  have e : (n.toInt32.toInt - n) % 4294967296 = 0 := by
    show ((Int32.ofNat n).toInt - _) % _ = 0
    rw [Int32.toInt_ofNat']; exact bm32 _
  have r := rng32 n.toInt32
  rw [Int32.lt_iff_toInt_lt, show (0 : Int32).toInt = 0 from by decide]
  omega
theorem own_minus {n s : Nat} {c : Int32} (h : s ≤ n) (hn : n < 2147483648) (hs : s < 2147483648) (hc : c = -(s.toInt32)) : n.toInt32 + c = (n - s).toInt32 := by
  rw [hc, ← own_subN h hn, Int32.sub_eq_add_neg]
set_option maxRecDepth 65536 in
set_option maxHeartbeats 40000000 in
theorem n73 {Z : State} {k : Cx} {F : Hp} {K N L n : Nat} (H : Ok Z k ({ frames := 0, cells := 0, slots := 0, locals := 0 } : Room) (fun v M' => v = some (.int K.toInt32) ∧ M' = F) y_5 jdk_33_method_47_code 2 (some .int)) (h1 : 2 ^ L ≤ N) (h2 : N < 2 ^ (L + 1)) (hw : N < 2 ^ 2) (hn : n = K + L) (hn2 : n < 64) : Go Z k 0 0 (F) 73 #[.val (.int N.toInt32), .val (.int n.toInt32)] [] := by
  refine s_iloadn H d5_73 rfl (pc' := 74) rfl ?_
  refine s_iloadn H d5_74 rfl (pc' := 75) rfl ?_
  refine s_iconst H d5_75 (z := (1 : Int32)) (by decide) (pc' := 76) rfl ?_
  refine s_iushr H d5_76 (pc' := 77) rfl ?_
  rw [show ((1 : Int32)) = (1 : Nat).toInt32 from rfl, own_iush (by omega) (by decide) (by decide)]
  refine s_isub H d5_77 (pc' := 78) rfl ?_
  have hL : L < 2 := pw_lt h1 hw
  have eN : N / 2 ^ 1 = L := by
    have : L = 0 ∨ L = 1 := by omega
    rcases this with rfl | rfl <;> simp at h1 h2 ⊢ <;> omega
  rw [eN, own_subN (by omega) (by omega), show n - L = K from by omega]
  exact s_iret H d5_78 rfl (Or.inl rfl) (by decide) (by decide) (⟨rfl, rfl⟩)
set_option maxRecDepth 65536 in
set_option maxHeartbeats 40000000 in
theorem n61 {Z : State} {k : Cx} {F : Hp} {K N L n : Nat} (H : Ok Z k ({ frames := 0, cells := 0, slots := 0, locals := 0 } : Room) (fun v M' => v = some (.int K.toInt32) ∧ M' = F) y_5 jdk_33_method_47_code 2 (some .int)) (h1 : 2 ^ L ≤ N) (h2 : N < 2 ^ (L + 1)) (hw : N < 2 ^ 4) (hn : n = K + L) (hn2 : n < 64) : Go Z k 0 0 (F) 61 #[.val (.int N.toInt32), .val (.int n.toInt32)] [] := by
  refine s_iloadn H d5_61 rfl (pc' := 62) rfl ?_
  refine s_iconst H d5_62 (z := (4 : Int32)) (by decide) (pc' := 63) rfl ?_
  refine s_icmp H d5_63 (py := 73) (pc' := 66) q_lt (by decide) rfl (fun c63 => ?_) (fun c63 => ?_)
  · rw [show ((4 : Int32)) = (4 : Nat).toInt32 from rfl, own_lt (by omega) (by omega)] at c63
    exact n73 H h1 h2 c63 hn hn2
  · rw [show ((4 : Int32)) = (4 : Nat).toInt32 from rfl, own_lt (by omega) (by omega)] at c63
    refine s_iinc H d5_66 rfl (u := (-2 : Int32)) (by decide) (L' := fun z => #[.val (.int N.toInt32), .val (.int z)]) (fun _ => rfl) (pc' := 69) rfl (fun nn h_nn => ?_)
    rw [show n.toInt32 + ((-2 : Int32)) = (n - 2).toInt32 from own_minus (by have := pw_le h2 (w := 2) (by omega); omega) (by omega) (by decide) rfl] at h_nn
    refine s_iloadn H d5_69 rfl (pc' := 70) rfl ?_
    refine s_iconst H d5_70 (z := (2 : Int32)) (by decide) (pc' := 71) rfl ?_
    refine s_iushr H d5_71 (pc' := 72) rfl ?_
    rw [show ((2 : Int32)) = (2 : Nat).toInt32 from rfl, own_iush (by omega) (by decide) (by decide)]
    refine s_istoren H d5_72 (L' := fun z => #[.val (.int z), .val (.int nn)]) (fun _ => rfl) (pc' := 73) rfl (fun ii h_ii => ?_)
    have d := pw_div h1 h2 (w := 2) (pw_le h2 (by omega))
    have hwL := pw_le h2 (w := 2) (by omega)
    rw [h_nn, h_ii]
    exact n73 H d.1 d.2 (by have := Nat.div_lt_iff_lt_mul (k := 2 ^ 2) (x := N) (y := 2 ^ 2) (Nat.two_pow_pos 2); rw [this]; exact Nat.lt_of_lt_of_le hw (by decide)) (by omega) (by omega)
set_option maxRecDepth 65536 in
set_option maxHeartbeats 40000000 in
theorem n48 {Z : State} {k : Cx} {F : Hp} {K N L n : Nat} (H : Ok Z k ({ frames := 0, cells := 0, slots := 0, locals := 0 } : Room) (fun v M' => v = some (.int K.toInt32) ∧ M' = F) y_5 jdk_33_method_47_code 2 (some .int)) (h1 : 2 ^ L ≤ N) (h2 : N < 2 ^ (L + 1)) (hw : N < 2 ^ 8) (hn : n = K + L) (hn2 : n < 64) : Go Z k 0 0 (F) 48 #[.val (.int N.toInt32), .val (.int n.toInt32)] [] := by
  refine s_iloadn H d5_48 rfl (pc' := 49) rfl ?_
  refine s_bipush H d5_49 (z := (16 : Int32)) (by decide) (pc' := 51) rfl ?_
  refine s_icmp H d5_51 (py := 61) (pc' := 54) q_lt (by decide) rfl (fun c51 => ?_) (fun c51 => ?_)
  · rw [show ((16 : Int32)) = (16 : Nat).toInt32 from rfl, own_lt (by omega) (by omega)] at c51
    exact n61 H h1 h2 c51 hn hn2
  · rw [show ((16 : Int32)) = (16 : Nat).toInt32 from rfl, own_lt (by omega) (by omega)] at c51
    refine s_iinc H d5_54 rfl (u := (-4 : Int32)) (by decide) (L' := fun z => #[.val (.int N.toInt32), .val (.int z)]) (fun _ => rfl) (pc' := 57) rfl (fun nn h_nn => ?_)
    rw [show n.toInt32 + ((-4 : Int32)) = (n - 4).toInt32 from own_minus (by have := pw_le h2 (w := 4) (by omega); omega) (by omega) (by decide) rfl] at h_nn
    refine s_iloadn H d5_57 rfl (pc' := 58) rfl ?_
    refine s_iconst H d5_58 (z := (4 : Int32)) (by decide) (pc' := 59) rfl ?_
    refine s_iushr H d5_59 (pc' := 60) rfl ?_
    rw [show ((4 : Int32)) = (4 : Nat).toInt32 from rfl, own_iush (by omega) (by decide) (by decide)]
    refine s_istoren H d5_60 (L' := fun z => #[.val (.int z), .val (.int nn)]) (fun _ => rfl) (pc' := 61) rfl (fun ii h_ii => ?_)
    have d := pw_div h1 h2 (w := 4) (pw_le h2 (by omega))
    have hwL := pw_le h2 (w := 4) (by omega)
    rw [h_nn, h_ii]
    exact n61 H d.1 d.2 (by have := Nat.div_lt_iff_lt_mul (k := 2 ^ 4) (x := N) (y := 2 ^ 4) (Nat.two_pow_pos 4); rw [this]; exact Nat.lt_of_lt_of_le hw (by decide)) (by omega) (by omega)
set_option maxRecDepth 65536 in
set_option maxHeartbeats 40000000 in
theorem n33 {Z : State} {k : Cx} {F : Hp} {K N L n : Nat} (H : Ok Z k ({ frames := 0, cells := 0, slots := 0, locals := 0 } : Room) (fun v M' => v = some (.int K.toInt32) ∧ M' = F) y_5 jdk_33_method_47_code 2 (some .int)) (h1 : 2 ^ L ≤ N) (h2 : N < 2 ^ (L + 1)) (hw : N < 2 ^ 16) (hn : n = K + L) (hn2 : n < 64) : Go Z k 0 0 (F) 33 #[.val (.int N.toInt32), .val (.int n.toInt32)] [] := by
  refine s_iloadn H d5_33 rfl (pc' := 34) rfl ?_
  refine s_sipush H d5_34 (z := (256 : Int32)) (by decide) (pc' := 37) rfl ?_
  refine s_icmp H d5_37 (py := 48) (pc' := 40) q_lt (by decide) rfl (fun c37 => ?_) (fun c37 => ?_)
  · rw [show ((256 : Int32)) = (256 : Nat).toInt32 from rfl, own_lt (by omega) (by omega)] at c37
    exact n48 H h1 h2 c37 hn hn2
  · rw [show ((256 : Int32)) = (256 : Nat).toInt32 from rfl, own_lt (by omega) (by omega)] at c37
    refine s_iinc H d5_40 rfl (u := (-8 : Int32)) (by decide) (L' := fun z => #[.val (.int N.toInt32), .val (.int z)]) (fun _ => rfl) (pc' := 43) rfl (fun nn h_nn => ?_)
    rw [show n.toInt32 + ((-8 : Int32)) = (n - 8).toInt32 from own_minus (by have := pw_le h2 (w := 8) (by omega); omega) (by omega) (by decide) rfl] at h_nn
    refine s_iloadn H d5_43 rfl (pc' := 44) rfl ?_
    refine s_bipush H d5_44 (z := (8 : Int32)) (by decide) (pc' := 46) rfl ?_
    refine s_iushr H d5_46 (pc' := 47) rfl ?_
    rw [show ((8 : Int32)) = (8 : Nat).toInt32 from rfl, own_iush (by omega) (by decide) (by decide)]
    refine s_istoren H d5_47 (L' := fun z => #[.val (.int z), .val (.int nn)]) (fun _ => rfl) (pc' := 48) rfl (fun ii h_ii => ?_)
    have d := pw_div h1 h2 (w := 8) (pw_le h2 (by omega))
    have hwL := pw_le h2 (w := 8) (by omega)
    rw [h_nn, h_ii]
    exact n48 H d.1 d.2 (by have := Nat.div_lt_iff_lt_mul (k := 2 ^ 8) (x := N) (y := 2 ^ 8) (Nat.two_pow_pos 8); rw [this]; exact Nat.lt_of_lt_of_le hw (by decide)) (by omega) (by omega)
set_option maxRecDepth 65536 in
set_option maxHeartbeats 40000000 in
theorem n18 {Z : State} {k : Cx} {F : Hp} {K N L n : Nat} (H : Ok Z k ({ frames := 0, cells := 0, slots := 0, locals := 0 } : Room) (fun v M' => v = some (.int K.toInt32) ∧ M' = F) y_5 jdk_33_method_47_code 2 (some .int)) (h1 : 2 ^ L ≤ N) (h2 : N < 2 ^ (L + 1)) (hw : N < 2 ^ 31) (hn : n = K + L) (hn2 : n < 64) : Go Z k 0 0 (F) 18 #[.val (.int N.toInt32), .val (.int n.toInt32)] [] := by
  refine s_iloadn H d5_18 rfl (pc' := 19) rfl ?_
  refine s_ldcw H d5_19 (mem (i := 23) rfl) (pc' := 22) rfl ?_
  refine s_icmp H d5_22 (py := 33) (pc' := 25) q_lt (by decide) rfl (fun c22 => ?_) (fun c22 => ?_)
  · rw [show ((65536 : Int32)) = (65536 : Nat).toInt32 from rfl, own_lt (by omega) (by omega)] at c22
    exact n33 H h1 h2 c22 hn hn2
  · rw [show ((65536 : Int32)) = (65536 : Nat).toInt32 from rfl, own_lt (by omega) (by omega)] at c22
    refine s_iinc H d5_25 rfl (u := (-16 : Int32)) (by decide) (L' := fun z => #[.val (.int N.toInt32), .val (.int z)]) (fun _ => rfl) (pc' := 28) rfl (fun nn h_nn => ?_)
    rw [show n.toInt32 + ((-16 : Int32)) = (n - 16).toInt32 from own_minus (by have := pw_le h2 (w := 16) (by omega); omega) (by omega) (by decide) rfl] at h_nn
    refine s_iloadn H d5_28 rfl (pc' := 29) rfl ?_
    refine s_bipush H d5_29 (z := (16 : Int32)) (by decide) (pc' := 31) rfl ?_
    refine s_iushr H d5_31 (pc' := 32) rfl ?_
    rw [show ((16 : Int32)) = (16 : Nat).toInt32 from rfl, own_iush (by omega) (by decide) (by decide)]
    refine s_istoren H d5_32 (L' := fun z => #[.val (.int z), .val (.int nn)]) (fun _ => rfl) (pc' := 33) rfl (fun ii h_ii => ?_)
    have d := pw_div h1 h2 (w := 16) (pw_le h2 (by omega))
    have hwL := pw_le h2 (w := 16) (by omega)
    rw [h_nn, h_ii]
    exact n33 H d.1 d.2 (by have := Nat.div_lt_iff_lt_mul (k := 2 ^ 16) (x := N) (y := 2 ^ 16) (Nat.two_pow_pos 16); rw [this]; exact Nat.lt_of_lt_of_le hw (by decide)) (by omega) (by omega)
set_option maxRecDepth 65536 in
set_option maxHeartbeats 40000000 in
theorem met_iz {Z : State} (HT : Tb Z) {F : Hp} (N L K : Nat) (h1 : 2 ^ L ≤ N) (h2 : N < 2 ^ (L + 1)) (hw : N < 2147483648) (hK : K + L = 31) : Met Z y_5 jdk_33_method_47_code 2 (some .int) ({ frames := 0, cells := 0, slots := 0, locals := 0 } : Room) [(.int N.toInt32)] (F) (fun v M' => v = some (.int K.toInt32) ∧ M' = F) := by
  refine Met.of HT pl_5 (Ls := #[.val (.int N.toInt32), .unset]) (fun m => by first | (simp [entryFrame, mkF, argsToLocals, Value.category]; done) | rfl) (fun k H => ?_)
  refine s_iloadn H d5_0 rfl (pc' := 1) rfl ?_
  refine s_if H d5_1 (py := 15) (pc' := 4) z_gt (by decide) rfl (fun c1 => ?_) (fun c1 => ?_)
  · refine s_bipush H d5_15 (z := (31 : Int32)) (by decide) (pc' := 17) rfl ?_
    refine s_istoren H d5_17 (L' := fun z => #[.val (.int N.toInt32), .val (.int z)]) (fun _ => rfl) (pc' := 18) rfl (fun z0 hz => ?_)
    subst z0
    exact n18 (n := 31) H h1 h2 (by omega) (by omega) (by decide)
  · exact absurd ((own_lt (m := 0) (by decide) (by omega)).mpr (by have := Nat.two_pow_pos L; omega)) c1
set_option maxRecDepth 65536 in
set_option maxHeartbeats 40000000 in
theorem met_in {Z : State} (HT : Tb Z) {F : Hp} (i : Int32) (hi : i < 0) : Met Z y_5 jdk_33_method_47_code 2 (some .int) ({ frames := 0, cells := 0, slots := 0, locals := 0 } : Room) [(.int i)] (F) (fun v M' => v = some (.int (0 : Nat).toInt32) ∧ M' = F) := by
  refine Met.of HT pl_5 (Ls := #[.val (.int i), .unset]) (fun m => by first | (simp [entryFrame, mkF, argsToLocals, Value.category]; done) | rfl) (fun k H => ?_)
  refine s_iloadn H d5_0 rfl (pc' := 1) rfl ?_
  refine s_if H d5_1 (py := 15) (pc' := 4) z_gt (by decide) rfl (fun c1 => ?_) (fun c1 => ?_)
  · exact absurd c1 (by rw [Int32.lt_iff_toInt_lt] at hi ⊢; omega)
  · refine s_iloadn H d5_4 rfl (pc' := 5) rfl ?_
    refine s_if H d5_5 (py := 13) (pc' := 8) z_ne (by decide) rfl (fun c5 => ?_) (fun c5 => ?_)
    · refine s_iconst H d5_13 (z := (0 : Int32)) (by decide) (pc' := 14) rfl ?_
      exact s_iret H d5_14 rfl (Or.inl rfl) (by decide) (by decide) (⟨rfl, rfl⟩)
    · exact absurd (Classical.not_not.mp c5) (by intro e; rw [e] at hi; exact absurd hi (by decide))
set_option maxRecDepth 65536 in
set_option maxHeartbeats 40000000 in
theorem met_lza {Z : State} (HT : Tb Z) {F : Hp} (n L : Nat) (h1 : 2 ^ L ≤ n) (h2 : n < 2 ^ (L + 1)) (hn : n < 9223372036854775808) (hL : L < 31) : Met Z y_4 jdk_35_method_48_code 3 (some .int) ({ frames := 1, cells := 0, slots := 0, locals := 14 } : Room) [(.long n.toInt64)] (F) (fun v M' => v = some (.int (63 - L).toInt32) ∧ M' = F) := by
  refine Met.of HT pl_4 (Ls := #[.val (.long n.toInt64), .second, .unset]) (fun m => by first | (simp [entryFrame, mkF, argsToLocals, Value.category]; done) | rfl) (fun k H => ?_)
  have hL62 : L < 63 := pw_lt h1 hn
  have q0 : n / 2 ^ 32 = 0 := Nat.div_eq_of_lt (Nat.lt_of_lt_of_le h2 (Nat.pow_le_pow_right (by decide) (by omega)))
  have n32 : n < 4294967296 := Nat.lt_of_lt_of_le h2 (Nat.pow_le_pow_right (n := 2) (by decide) (show L + 1 ≤ 32 by omega))
  have n31 : n < 2147483648 := Nat.lt_of_lt_of_le h2 (Nat.pow_le_pow_right (n := 2) (by decide) (show L + 1 ≤ 31 by omega))
  refine s_lloadn H d4_0 rfl (pc' := 1) rfl ?_
  refine s_bipush H d4_1 (z := (32 : Int32)) (by decide) (pc' := 3) rfl ?_
  refine s_lushr H d4_3 (pc' := 4) rfl ?_
  rw [show ((32 : Int32)) = (32 : Nat).toInt32 from rfl, ll_ushr hn (by decide)]
  refine s_l2i H d4_4 (pc' := 5) rfl ?_
  rw [ll_l2i]
  refine s_istoren H d4_5 (L' := fun z => #[.val (.long n.toInt64), .second, .val (.int z)]) (fun _ => rfl) (pc' := 6) rfl (fun z0 hz => ?_)
  subst z0
  refine s_iloadn H d4_6 rfl (pc' := 7) rfl ?_
  refine s_if H d4_7 (py := 21) (pc' := 10) z_ne (by decide) rfl (fun c7 => ?_) (fun c7 => ?_)
  · exact absurd (by rw [q0]; rfl) c7
  · refine s_bipush H d4_10 (z := (32 : Int32)) (by decide) (pc' := 12) rfl ?_
    refine s_lloadn H d4_12 rfl (pc' := 13) rfl ?_
    refine s_l2i H d4_13 (pc' := 14) rfl ?_
    rw [ll_l2i]
    refine s_static H (met_iz H.tb n L (31 - L) h1 h2 (by omega) (by omega)) d4_14 (mem (i := 19) rfl) (mem (i := 20) rfl) (mem (i := 21) rfl) (mem (i := 22) rfl) (by decide) pd_5 rfl (rest := [(.int (32 : Int32))]) rfl rfl (by decide) (Nat.le_of_ble_eq_true rfl) (cn' := 0) (sn' := 0) rfl rfl (by decide) (by decide) (pc' := 17) rfl (fun v0 M0 hq => ?_)
    obtain ⟨rfl, hm0⟩ := hq
    subst M0
    show Go Z k 0 0 (F) 17 #[.val (.long n.toInt64), .second, .val (.int (n / 2 ^ 32).toInt32)] [(.int (31 - L).toInt32), (.int (32 : Int32))]
    refine s_iadd H d4_17 (pc' := 18) rfl ?_
    rw [show ((32 : Int32)) = (32 : Nat).toInt32 from rfl, own_addN, show 32 + (31 - L) = 63 - L from by omega]
    refine s_goto H d4_18 (pc' := 25) (by decide) ?_
    exact s_iret H d4_25 rfl (Or.inl rfl) (by decide) (by decide) (⟨rfl, rfl⟩)
set_option maxRecDepth 65536 in
set_option maxHeartbeats 40000000 in
theorem met_lzb {Z : State} (HT : Tb Z) {F : Hp} (n L : Nat) (h1 : 2 ^ L ≤ n) (h2 : n < 2 ^ (L + 1)) (hn : n < 9223372036854775808) (hL : L = 31) : Met Z y_4 jdk_35_method_48_code 3 (some .int) ({ frames := 1, cells := 0, slots := 0, locals := 14 } : Room) [(.long n.toInt64)] (F) (fun v M' => v = some (.int (63 - L).toInt32) ∧ M' = F) := by
  refine Met.of HT pl_4 (Ls := #[.val (.long n.toInt64), .second, .unset]) (fun m => by first | (simp [entryFrame, mkF, argsToLocals, Value.category]; done) | rfl) (fun k H => ?_)
  have hL62 : L < 63 := pw_lt h1 hn
  have q0 : n / 2 ^ 32 = 0 := Nat.div_eq_of_lt (Nat.lt_of_lt_of_le h2 (Nat.pow_le_pow_right (by decide) (by omega)))
  have n32 : n < 4294967296 := Nat.lt_of_lt_of_le h2 (Nat.pow_le_pow_right (n := 2) (by decide) (show L + 1 ≤ 32 by omega))
  refine s_lloadn H d4_0 rfl (pc' := 1) rfl ?_
  refine s_bipush H d4_1 (z := (32 : Int32)) (by decide) (pc' := 3) rfl ?_
  refine s_lushr H d4_3 (pc' := 4) rfl ?_
  rw [show ((32 : Int32)) = (32 : Nat).toInt32 from rfl, ll_ushr hn (by decide)]
  refine s_l2i H d4_4 (pc' := 5) rfl ?_
  rw [ll_l2i]
  refine s_istoren H d4_5 (L' := fun z => #[.val (.long n.toInt64), .second, .val (.int z)]) (fun _ => rfl) (pc' := 6) rfl (fun z0 hz => ?_)
  subst z0
  refine s_iloadn H d4_6 rfl (pc' := 7) rfl ?_
  refine s_if H d4_7 (py := 21) (pc' := 10) z_ne (by decide) rfl (fun c7 => ?_) (fun c7 => ?_)
  · exact absurd (by rw [q0]; rfl) c7
  · refine s_bipush H d4_10 (z := (32 : Int32)) (by decide) (pc' := 12) rfl ?_
    refine s_lloadn H d4_12 rfl (pc' := 13) rfl ?_
    refine s_l2i H d4_13 (pc' := 14) rfl ?_
    rw [ll_l2i]
    refine s_static H (met_in H.tb n.toInt32 (own_neg32 (by rw [hL] at h1; omega) n32)) d4_14 (mem (i := 19) rfl) (mem (i := 20) rfl) (mem (i := 21) rfl) (mem (i := 22) rfl) (by decide) pd_5 rfl (rest := [(.int (32 : Int32))]) rfl rfl (by decide) (Nat.le_of_ble_eq_true rfl) (cn' := 0) (sn' := 0) rfl rfl (by decide) (by decide) (pc' := 17) rfl (fun v0 M0 hq => ?_)
    obtain ⟨rfl, hm0⟩ := hq
    subst M0
    show Go Z k 0 0 (F) 17 #[.val (.long n.toInt64), .second, .val (.int (n / 2 ^ 32).toInt32)] [(.int (0 : Nat).toInt32), (.int (32 : Int32))]
    refine s_iadd H d4_17 (pc' := 18) rfl ?_
    rw [show ((32 : Int32)) = (32 : Nat).toInt32 from rfl, own_addN, show 32 + 0 = 63 - L from by omega]
    refine s_goto H d4_18 (pc' := 25) (by decide) ?_
    exact s_iret H d4_25 rfl (Or.inl rfl) (by decide) (by decide) (⟨rfl, rfl⟩)
set_option maxRecDepth 65536 in
set_option maxHeartbeats 40000000 in
theorem met_lzc {Z : State} (HT : Tb Z) {F : Hp} (n L : Nat) (h1 : 2 ^ L ≤ n) (h2 : n < 2 ^ (L + 1)) (hn : n < 9223372036854775808) (hL : 32 ≤ L) : Met Z y_4 jdk_35_method_48_code 3 (some .int) ({ frames := 1, cells := 0, slots := 0, locals := 14 } : Room) [(.long n.toInt64)] (F) (fun v M' => v = some (.int (63 - L).toInt32) ∧ M' = F) := by
  refine Met.of HT pl_4 (Ls := #[.val (.long n.toInt64), .second, .unset]) (fun m => by first | (simp [entryFrame, mkF, argsToLocals, Value.category]; done) | rfl) (fun k H => ?_)
  have hL62 : L < 63 := pw_lt h1 hn
  have q1 : 1 ≤ n / 2 ^ 32 := (Nat.le_div_iff_mul_le (by decide)).mpr (by have := Nat.pow_le_pow_right (n := 2) (by decide) hL; omega)
  refine s_lloadn H d4_0 rfl (pc' := 1) rfl ?_
  refine s_bipush H d4_1 (z := (32 : Int32)) (by decide) (pc' := 3) rfl ?_
  refine s_lushr H d4_3 (pc' := 4) rfl ?_
  rw [show ((32 : Int32)) = (32 : Nat).toInt32 from rfl, ll_ushr hn (by decide)]
  refine s_l2i H d4_4 (pc' := 5) rfl ?_
  rw [ll_l2i]
  refine s_istoren H d4_5 (L' := fun z => #[.val (.long n.toInt64), .second, .val (.int z)]) (fun _ => rfl) (pc' := 6) rfl (fun z0 hz => ?_)
  subst z0
  refine s_iloadn H d4_6 rfl (pc' := 7) rfl ?_
  refine s_if H d4_7 (py := 21) (pc' := 10) z_ne (by decide) rfl (fun c7 => ?_) (fun c7 => ?_)
  · refine s_iloadn H d4_21 rfl (pc' := 22) rfl ?_
    have d := pw_div h1 h2 hL
    refine s_static H (met_iz H.tb (n / 2 ^ 32) (L - 32) (63 - L) d.1 d.2 (by omega) (by omega)) d4_22 (mem (i := 19) rfl) (mem (i := 20) rfl) (mem (i := 21) rfl) (mem (i := 22) rfl) (by decide) pd_5 rfl (rest := []) rfl rfl (by decide) (Nat.le_of_ble_eq_true rfl) (cn' := 0) (sn' := 0) rfl rfl (by decide) (by decide) (pc' := 25) rfl (fun v0 M0 hq => ?_)
    obtain ⟨rfl, hm0⟩ := hq
    subst M0
    show Go Z k 0 0 (F) 25 #[.val (.long n.toInt64), .second, .val (.int (n / 2 ^ 32).toInt32)] [(.int (63 - L).toInt32)]
    exact s_iret H d4_25 rfl (Or.inl rfl) (by decide) (by decide) (⟨rfl, rfl⟩)
  · exact absurd ((own_inj (n := 0) (by omega) (by decide)).mp (Classical.not_not.mp c7)) (by omega)
theorem met_lz {Z : State} (HT : Tb Z) {F : Hp} (n L : Nat) (h1 : 2 ^ L ≤ n) (h2 : n < 2 ^ (L + 1)) (hn : n < 9223372036854775808) : Met Z y_4 jdk_35_method_48_code 3 (some .int) ({ frames := 1, cells := 0, slots := 0, locals := 14 } : Room) [(.long n.toInt64)] (F) (fun v M' => v = some (.int (63 - L).toInt32) ∧ M' = F) := by
  rcases Nat.lt_or_ge L 31 with lt | ge
  · exact met_lza HT n L h1 h2 hn lt
  · rcases Nat.lt_or_ge L 32 with lt' | ge'
    · exact met_lzb HT n L h1 h2 hn (by omega)
    · exact met_lzc HT n L h1 h2 hn ge'
set_option maxRecDepth 65536 in
set_option maxHeartbeats 40000000 in
theorem met_bk {Z : State} (HT : Tb Z) {F : Hp} (n : Nat) (hn : n < 9223372036854775808) : Met Z y_3 prog_13_method_6_code 3 (some .int) ({ frames := 2, cells := 0, slots := 0, locals := 29 } : Room) [(.long n.toInt64)] (F) (fun v M' => v = some (.int (bk n).toInt32) ∧ M' = F) := by
  refine Met.of HT pl_3 (Ls := #[.val (.long n.toInt64), .second, .unset]) (fun m => by first | (simp [entryFrame, mkF, argsToLocals, Value.category]; done) | rfl) (fun k H => ?_)
  refine s_lloadn H d3_0 rfl (pc' := 1) rfl ?_
  refine s_ldc2 H d3_1 (mem (i := 14) rfl) (pc' := 4) rfl ?_
  refine s_lcmp H d3_4 (pc' := 5) rfl ?_
  refine s_if H d3_5 (py := 11) (pc' := 8) l_ge (by decide) rfl (fun c5 => ?_) (fun c5 => ?_)
  · rw [show ((2048 : Int64)) = (2048 : Nat).toInt64 from rfl, ll_le (by decide) hn] at c5
    have g := lg_ge c5
    have g2 := lg_lt hn (by omega)
    have md := bk_mid c5
    refine s_bipush H d3_11 (z := (63 : Int32)) (by decide) (pc' := 13) rfl ?_
    refine s_lloadn H d3_13 rfl (pc' := 14) rfl ?_
    refine s_static H (met_lz H.tb n n.log2 (lg_sp (by omega)).1 (lg_sp (by omega)).2 hn) d3_14 (mem (i := 15) rfl) (mem (i := 16) rfl) (mem (i := 17) rfl) (mem (i := 18) rfl) (by decide) pd_4 rfl (rest := [(.int (63 : Int32))]) rfl rfl (by decide) (Nat.le_of_ble_eq_true rfl) (cn' := 0) (sn' := 0) rfl rfl (by decide) (by decide) (pc' := 17) rfl (fun v0 M0 hq => ?_)
    obtain ⟨rfl, hm0⟩ := hq
    subst M0
    show Go Z k 0 0 (F) 17 #[.val (.long n.toInt64), .second, .unset] [(.int (63 - n.log2).toInt32), (.int (63 : Int32))]
    refine s_isub H d3_17 (pc' := 18) rfl ?_
    rw [show ((63 : Int32)) = (63 : Nat).toInt32 from rfl, own_subN (by omega) (by decide)]
    refine s_bipush H d3_18 (z := (10 : Int32)) (by decide) (pc' := 20) rfl ?_
    refine s_isub H d3_20 (pc' := 21) rfl ?_
    rw [show ((10 : Int32)) = (10 : Nat).toInt32 from rfl, own_subN (by omega) (by omega), show 63 - (63 - n.log2) - 10 = n.log2 - 10 from by omega]
    refine s_istoren H d3_21 (L' := fun z => #[.val (.long n.toInt64), .second, .val (.int z)]) (fun _ => rfl) (pc' := 22) rfl (fun z0 hz => ?_)
    subst z0
    refine s_iloadn H d3_22 rfl (pc' := 23) rfl ?_
    refine s_bipush H d3_23 (z := (10 : Int32)) (by decide) (pc' := 25) rfl ?_
    refine s_ishl H d3_25 (pc' := 26) rfl ?_
    rw [own_ishl10 (by omega)]
    refine s_lloadn H d3_26 rfl (pc' := 27) rfl ?_
    refine s_iloadn H d3_27 rfl (pc' := 28) rfl ?_
    refine s_lushr H d3_28 (pc' := 29) rfl ?_
    rw [ll_ushr hn (by omega)]
    refine s_l2i H d3_29 (pc' := 30) rfl ?_
    rw [ll_l2i]
    refine s_iadd H d3_30 (pc' := 31) rfl ?_
    rw [own_addN]
    exact s_iret H d3_31 rfl (Or.inl rfl) (by decide) (by decide) (⟨by unfold bk; rw [if_neg (by omega)], rfl⟩)
  · rw [show ((2048 : Int64)) = (2048 : Nat).toInt64 from rfl, ll_le (by decide) hn] at c5
    refine s_lloadn H d3_8 rfl (pc' := 9) rfl ?_
    refine s_l2i H d3_9 (pc' := 10) rfl ?_
    rw [ll_l2i]
    exact s_iret H d3_10 rfl (Or.inl rfl) (by decide) (by decide) (⟨by unfold bk; rw [if_pos (by omega)], rfl⟩)
theorem ll_sub {a b : Nat} (h : b ≤ a) : a.toInt64 - b.toInt64 = (a - b).toInt64 := by
  apply Int64.toBitVec_inj.mp
  show BitVec.ofNat 64 a - BitVec.ofNat 64 b = BitVec.ofNat 64 (a - b)
  apply BitVec.eq_of_toNat_eq
  simp only [BitVec.toNat_sub, BitVec.toNat_ofNat]
  omega
def HI (cs : List Int64) (c : Nat → Nat) : Prop := cs.length = 55296 ∧ ∀ i, i < 55296 → cs[i]? = some (c i).toInt64
theorem HI.new : HI (List.replicate 55296 0) (fun _ => 0) := ⟨List.length_replicate, fun i hi => by rw [List.getElem?_replicate, if_pos hi]; rfl⟩
theorem HI.inc {cs : List Int64} {c : Nat → Nat} {b : Nat} (K : HI cs c) (hb : b < 55296) : HI (cs.set b (c b + 1).toInt64) (fun i => c i + if i = b then 1 else 0) := by
  refine ⟨by rw [List.length_set]; exact K.1, fun i hi => ?_⟩
  by_cases e : i = b
  · subst e; rw [List.getElem?_set_self (by rw [K.1]; exact hi)]; simp
  · rw [List.getElem?_set_ne (Ne.symm e), K.2 i hi]; simp [e]
theorem bk_max : bk 9223372036854775807 = 55295 := by decide +kernel
set_option maxRecDepth 65536 in
set_option maxHeartbeats 40000000 in
theorem met_hi {Z : State} (HT : Tb Z) {F : Hp} (h : Addr)  : Met Z y_1 prog_13_method_1_code 1 none ({ frames := 3, cells := 1, slots := 55296, locals := 44 } : Room) [(.ref h)] ((h, Obj Z "com/example/graupel/graupel/benchmark/CallTimeHistogram" [("com/example/graupel/graupel/benchmark/CallTimeHistogram", "counts", "[J", .null), ("com/example/graupel/graupel/benchmark/CallTimeHistogram", "total", "J", (.long (0 : Int64)))]) :: F) (fun v M' => ∃ (ca : Addr) (cs : List Int64), HI cs (fun _ => 0) ∧ v = none ∧ M' = ((ca, ArL Z cs) :: (h, Obj Z "com/example/graupel/graupel/benchmark/CallTimeHistogram" [("com/example/graupel/graupel/benchmark/CallTimeHistogram", "counts", "[J", (.ref ca)), ("com/example/graupel/graupel/benchmark/CallTimeHistogram", "total", "J", (.long (0 : Nat).toInt64))]) :: F)) := by
  refine Met.of HT pl_1 (Ls := #[.val (.ref h)]) (fun m => by first | (simp [entryFrame, mkF, argsToLocals, Value.category]; done) | rfl) (fun k H => ?_)
  refine s_aloadn H d1_0 rfl rfl (pc' := 1) rfl ?_
  refine s_objinit H d1_1 (mem (i := 7) rfl) (mem (i := 8) rfl) (mem (i := 9) rfl) rfl (by decide) (Nat.le_of_ble_eq_true rfl) (pc' := 4) rfl ?_
  refine s_aloadn H d1_4 rfl rfl (pc' := 5) rfl ?_
  refine s_ldc2 H d1_5 (mem (i := 10) rfl) (pc' := 8) rfl ?_
  refine s_static H (met_bk H.tb 9223372036854775807 (by decide)) d1_8 (mem (i := 11) rfl) (mem (i := 12) rfl) (mem (i := 3) rfl) (mem (i := 13) rfl) (by decide) pd_3 rfl (rest := [(.ref h)]) rfl rfl (by decide) (Nat.le_of_ble_eq_true rfl) (cn' := 0) (sn' := 0) rfl rfl (by decide) (by decide) (pc' := 11) rfl (fun v0 M0 hq => ?_)
  obtain ⟨rfl, hm0⟩ := hq
  subst M0
  show Go Z k 0 0 ((h, Obj Z "com/example/graupel/graupel/benchmark/CallTimeHistogram" [("com/example/graupel/graupel/benchmark/CallTimeHistogram", "counts", "[J", .null), ("com/example/graupel/graupel/benchmark/CallTimeHistogram", "total", "J", (.long (0 : Int64)))]) :: F) 11 #[.val (.ref h)] [(.int (bk 9223372036854775807).toInt32), (.ref h)]
  refine s_iconst H d1_11 (z := (1 : Int32)) (by decide) (pc' := 12) rfl ?_
  refine s_iadd H d1_12 (pc' := 13) rfl ?_
  rw [show (bk 9223372036854775807).toInt32 + 1 = (55296 : Nat).toInt32 from by rw [bk_max]; rfl]
  refine s_newarr_long H d1_13 (mem (i := 24) rfl) (by decide) (cap := 55296) (by decide) (by decide) (cn' := 1) (sn' := 55296) rfl rfl (by decide) (by decide) (pc' := 15) rfl (fun ca => ?_)
  show Go Z k 1 55296 ((ca, ArL Z (List.replicate 55296 0)) :: (h, Obj Z "com/example/graupel/graupel/benchmark/CallTimeHistogram" [("com/example/graupel/graupel/benchmark/CallTimeHistogram", "counts", "[J", .null), ("com/example/graupel/graupel/benchmark/CallTimeHistogram", "total", "J", (.long (0 : Int64)))]) :: F) 15 #[.val (.ref h)] [(.ref ca), (.ref h)]
  obtain ⟨cs, hcs, k0⟩ : ∃ q : List Int64, q = List.replicate 55296 0 ∧ HI q (fun _ => 0) := ⟨_, rfl, HI.new⟩
  rw [← hcs]
  clear hcs
  show Go Z k 1 55296 ((ca, ArL Z cs) :: (h, Obj Z "com/example/graupel/graupel/benchmark/CallTimeHistogram" [("com/example/graupel/graupel/benchmark/CallTimeHistogram", "counts", "[J", .null), ("com/example/graupel/graupel/benchmark/CallTimeHistogram", "total", "J", (.long (0 : Int64)))]) :: F) 15 #[.val (.ref h)] [(.ref ca), (.ref h)]
  refine s_putf H d1_15 (mem (i := 25) rfl) (Or.inr ⟨(mem (i := 26) rfl), rfl, rfl⟩) (mem (i := 2) rfl) (ty := (.array .long)) (by decide) rfl rfl (i := 1) (j := 0) rfl rfl (pc' := 18) rfl ?_
  show Go Z k 1 55296 ((ca, ArL Z cs) :: (h, Obj Z "com/example/graupel/graupel/benchmark/CallTimeHistogram" [("com/example/graupel/graupel/benchmark/CallTimeHistogram", "counts", "[J", (.ref ca)), ("com/example/graupel/graupel/benchmark/CallTimeHistogram", "total", "J", (.long (0 : Int64)))]) :: F) 18 #[.val (.ref h)] []
  exact s_vret H d1_18 (by decide) (by decide) (⟨ca, cs, k0, rfl, rfl⟩)
set_option maxRecDepth 65536 in
set_option maxHeartbeats 40000000 in
theorem met_hr {Z : State} (HT : Tb Z) {F : Hp} (h ca : Addr) (cs : List Int64) (c : Nat → Nat) (t n : Nat) (K : HI cs c) (hn : n < 9223372036854775808) : Met Z y_8 prog_13_method_2_code 3 none ({ frames := 3, cells := 0, slots := 0, locals := 44 } : Room) [(.ref h), (.long n.toInt64)] ((ca, ArL Z cs) :: (h, Obj Z "com/example/graupel/graupel/benchmark/CallTimeHistogram" [("com/example/graupel/graupel/benchmark/CallTimeHistogram", "counts", "[J", (.ref ca)), ("com/example/graupel/graupel/benchmark/CallTimeHistogram", "total", "J", (.long t.toInt64))]) :: F) (fun v M' => ∃ cs' : List Int64, HI cs' (fun i => c i + if i = bk n then 1 else 0) ∧ v = none ∧ M' = ((ca, ArL Z cs') :: (h, Obj Z "com/example/graupel/graupel/benchmark/CallTimeHistogram" [("com/example/graupel/graupel/benchmark/CallTimeHistogram", "counts", "[J", (.ref ca)), ("com/example/graupel/graupel/benchmark/CallTimeHistogram", "total", "J", (.long (t + 1).toInt64))]) :: F)) := by
  refine Met.of HT pl_8 (Ls := #[.val (.ref h), .val (.long n.toInt64), .second]) (fun m => by first | (simp [entryFrame, mkF, argsToLocals, Value.category]; done) | rfl) (fun k H => ?_)
  have hb := bk_lt hn
  refine s_lloadn H d8_0 rfl (pc' := 1) rfl ?_
  refine s_lconst H d8_1 (z := (0 : Int64)) (by decide) (pc' := 2) rfl ?_
  refine s_lcmp H d8_2 (pc' := 3) rfl ?_
  refine s_if H d8_3 (py := 20) (pc' := 6) l_ge (by decide) rfl (fun c3 => ?_) (fun c3 => ?_)
  · refine s_aloadn H d8_20 rfl rfl (pc' := 21) rfl ?_
    refine s_getf H d8_21 (mem (i := 25) rfl) (i := 1) (j := 0) rfl rfl (pc' := 24) rfl ?_
    refine s_lloadn H d8_24 rfl (pc' := 25) rfl ?_
    refine s_static H (met_bk H.tb n hn) d8_25 (mem (i := 11) rfl) (mem (i := 12) rfl) (mem (i := 3) rfl) (mem (i := 13) rfl) (by decide) pd_3 rfl (rest := [(.ref ca)]) rfl rfl (by decide) (Nat.le_of_ble_eq_true rfl) (cn' := 0) (sn' := 0) rfl rfl (by decide) (by decide) (pc' := 28) rfl (fun v0 M0 hq => ?_)
    obtain ⟨rfl, hm0⟩ := hq
    subst M0
    show Go Z k 0 0 ((ca, ArL Z cs) :: (h, Obj Z "com/example/graupel/graupel/benchmark/CallTimeHistogram" [("com/example/graupel/graupel/benchmark/CallTimeHistogram", "counts", "[J", (.ref ca)), ("com/example/graupel/graupel/benchmark/CallTimeHistogram", "total", "J", (.long t.toInt64))]) :: F) 28 #[.val (.ref h), .val (.long n.toInt64), .second] [(.int (bk n).toInt32), (.ref ca)]
    refine s_dup2 H d8_28 rfl rfl (pc' := 29) rfl ?_
    refine s_laload H d8_29 (i := 0) rfl (x := (c (bk n)).toInt64) (own_nat (by omega)).2.1 (jn := (bk n)) (own_nat (by omega)).1 (K.2 _ hb) (pc' := 30) rfl ?_
    refine s_lconst H d8_30 (z := (1 : Int64)) (by decide) (pc' := 31) rfl ?_
    refine s_ladd H d8_31 (pc' := 32) rfl ?_
    rw [show (c (bk n)).toInt64 + 1 = (c (bk n) + 1).toInt64 from ll_add _ 1]
    refine s_lastore H d8_32 (i := 0) rfl (own_nat (by omega)).2.1 (jn := (bk n)) (own_nat (by omega)).1 (by rw [K.1]; exact hb) (pc' := 33) rfl ?_
    show Go Z k 0 0 ((ca, ArL Z (cs.set (bk n) (c (bk n) + 1).toInt64)) :: (h, Obj Z "com/example/graupel/graupel/benchmark/CallTimeHistogram" [("com/example/graupel/graupel/benchmark/CallTimeHistogram", "counts", "[J", (.ref ca)), ("com/example/graupel/graupel/benchmark/CallTimeHistogram", "total", "J", (.long t.toInt64))]) :: F) 33 #[.val (.ref h), .val (.long n.toInt64), .second] []
    refine s_aloadn H d8_33 rfl rfl (pc' := 34) rfl ?_
    refine s_dup H d8_34 rfl (pc' := 35) rfl ?_
    refine s_getf H d8_35 (mem (i := 32) rfl) (i := 1) (j := 1) rfl rfl (pc' := 38) rfl ?_
    refine s_lconst H d8_38 (z := (1 : Int64)) (by decide) (pc' := 39) rfl ?_
    refine s_ladd H d8_39 (pc' := 40) rfl ?_
    rw [show t.toInt64 + 1 = (t + 1).toInt64 from ll_add _ 1]
    refine s_putf H d8_40 (mem (i := 32) rfl) (Or.inl (mem (i := 33) rfl)) (mem (i := 2) rfl) (ty := .long) (by decide) rfl rfl (i := 1) (j := 1) rfl rfl (pc' := 43) rfl ?_
    show Go Z k 0 0 ((ca, ArL Z (cs.set (bk n) (c (bk n) + 1).toInt64)) :: (h, Obj Z "com/example/graupel/graupel/benchmark/CallTimeHistogram" [("com/example/graupel/graupel/benchmark/CallTimeHistogram", "counts", "[J", (.ref ca)), ("com/example/graupel/graupel/benchmark/CallTimeHistogram", "total", "J", (.long (t + 1).toInt64))]) :: F) 43 #[.val (.ref h), .val (.long n.toInt64), .second] []
    exact s_vret H d8_43 (by decide) (by decide) (⟨_, K.inc hb, rfl, rfl⟩)
  · exact absurd ((ll_le (a := 0) (by decide) hn).mpr (Nat.zero_le _)) c3
set_option maxRecDepth 65536 in
set_option maxHeartbeats 40000000 in
theorem met_hc {Z : State} (HT : Tb Z) {F : Hp} (h ca : Addr) (cs : List Int64) (t : Nat)  : Met Z y_7 prog_13_method_4_code 1 (some .long) ({ frames := 0, cells := 0, slots := 0, locals := 0 } : Room) [(.ref h)] ((ca, ArL Z cs) :: (h, Obj Z "com/example/graupel/graupel/benchmark/CallTimeHistogram" [("com/example/graupel/graupel/benchmark/CallTimeHistogram", "counts", "[J", (.ref ca)), ("com/example/graupel/graupel/benchmark/CallTimeHistogram", "total", "J", (.long t.toInt64))]) :: F) (fun v M' => v = some (.long t.toInt64) ∧ M' = ((ca, ArL Z cs) :: (h, Obj Z "com/example/graupel/graupel/benchmark/CallTimeHistogram" [("com/example/graupel/graupel/benchmark/CallTimeHistogram", "counts", "[J", (.ref ca)), ("com/example/graupel/graupel/benchmark/CallTimeHistogram", "total", "J", (.long t.toInt64))]) :: F)) := by
  refine Met.of HT pl_7 (Ls := #[.val (.ref h)]) (fun m => by first | (simp [entryFrame, mkF, argsToLocals, Value.category]; done) | rfl) (fun k H => ?_)
  refine s_aloadn H d7_0 rfl rfl (pc' := 1) rfl ?_
  refine s_getf H d7_1 (mem (i := 32) rfl) (i := 1) (j := 1) rfl rfl (pc' := 4) rfl ?_
  exact s_lret H d7_4 (by decide) (by decide) (⟨rfl, rfl⟩)
set_option maxRecDepth 65536 in
set_option maxHeartbeats 40000000 in
theorem met_abs {Z : State} (HT : Tb Z) {F : Hp} (a : Nat) (ha : a < 9223372036854775808) : Met Z y_11 jdk_29_method_61_code 2 (some .long) ({ frames := 0, cells := 0, slots := 0, locals := 0 } : Room) [(.long a.toInt64)] (F) (fun v M' => v = some (.long a.toInt64) ∧ M' = F) := by
  refine Met.of HT pl_11 (Ls := #[.val (.long a.toInt64), .second]) (fun m => by first | (simp [entryFrame, mkF, argsToLocals, Value.category]; done) | rfl) (fun k H => ?_)
  refine s_lloadn H d11_0 rfl (pc' := 1) rfl ?_
  refine s_lconst H d11_1 (z := (0 : Int64)) (by decide) (pc' := 2) rfl ?_
  refine s_lcmp H d11_2 (pc' := 3) rfl ?_
  refine s_if H d11_3 (py := 11) (pc' := 6) l_ge (by decide) rfl (fun c3 => ?_) (fun c3 => ?_)
  · refine s_lloadn H d11_11 rfl (pc' := 12) rfl ?_
    exact s_lret H d11_12 (by decide) (by decide) (⟨rfl, rfl⟩)
  · exact absurd ((ll_le (a := 0) (by decide) ha).mpr (Nat.zero_le _)) c3
set_option maxRecDepth 65536 in
set_option maxHeartbeats 40000000 in
theorem met_mx {Z : State} (HT : Tb Z) {F : Hp} (a b : Nat) (ha : a < 2147483648) (hb : b < 2147483648) : Met Z y_10 jdk_29_method_30_code 10 (some .long) ({ frames := 1, cells := 0, slots := 0, locals := 13 } : Room) [(.long a.toInt64), (.long b.toInt64)] (F) (fun v M' => v = some (.long (a * b).toInt64) ∧ M' = F) := by
  refine Met.of HT pl_10 (Ls := #[.val (.long a.toInt64), .second, .val (.long b.toInt64), .second, .unset, .unset, .unset, .unset, .unset, .unset]) (fun m => by first | (simp [entryFrame, mkF, argsToLocals, Value.category]; done) | rfl) (fun k H => ?_)
  have ho : a ||| b < 2 ^ 31 := Nat.or_lt_two_pow (by omega) (by omega)
  refine s_lloadn H d10_0 rfl (pc' := 1) rfl ?_
  refine s_lloadn H d10_1 rfl (pc' := 2) rfl ?_
  refine s_lmul H d10_2 (pc' := 3) rfl ?_
  rw [show a.toInt64 * b.toInt64 = (a * b).toInt64 from (Int64.ofNat_mul a b).symm]
  refine s_lstore H d10_3 (L' := fun z => #[.val (.long a.toInt64), .second, .val (.long b.toInt64), .second, .val (.long z), .second, .unset, .unset, .unset, .unset]) (fun _ => rfl) (pc' := 5) rfl (fun z0 hz => ?_)
  subst z0
  refine s_lloadn H d10_5 rfl (pc' := 6) rfl ?_
  refine s_static H (met_abs H.tb a (by omega)) d10_6 (mem (i := 53) rfl) (mem (i := 54) rfl) (mem (i := 51) rfl) (mem (i := 55) rfl) (by decide) pd_11 rfl (rest := []) rfl rfl (by decide) (Nat.le_of_ble_eq_true rfl) (cn' := 0) (sn' := 0) rfl rfl (by decide) (by decide) (pc' := 9) rfl (fun v0 M0 hq => ?_)
  obtain ⟨rfl, hm0⟩ := hq
  subst M0
  show Go Z k 0 0 (F) 9 #[.val (.long a.toInt64), .second, .val (.long b.toInt64), .second, .val (.long (a * b).toInt64), .second, .unset, .unset, .unset, .unset] [(.long a.toInt64)]
  refine s_lstore H d10_9 (L' := fun z => #[.val (.long a.toInt64), .second, .val (.long b.toInt64), .second, .val (.long (a * b).toInt64), .second, .val (.long z), .second, .unset, .unset]) (fun _ => rfl) (pc' := 11) rfl (fun z0 hz => ?_)
  subst z0
  refine s_lloadn H d10_11 rfl (pc' := 12) rfl ?_
  refine s_static H (met_abs H.tb b (by omega)) d10_12 (mem (i := 53) rfl) (mem (i := 54) rfl) (mem (i := 51) rfl) (mem (i := 55) rfl) (by decide) pd_11 rfl (rest := []) rfl rfl (by decide) (Nat.le_of_ble_eq_true rfl) (cn' := 0) (sn' := 0) rfl rfl (by decide) (by decide) (pc' := 15) rfl (fun v0 M0 hq => ?_)
  obtain ⟨rfl, hm0⟩ := hq
  subst M0
  show Go Z k 0 0 (F) 15 #[.val (.long a.toInt64), .second, .val (.long b.toInt64), .second, .val (.long (a * b).toInt64), .second, .val (.long a.toInt64), .second, .unset, .unset] [(.long b.toInt64)]
  refine s_lstore H d10_15 (L' := fun z => #[.val (.long a.toInt64), .second, .val (.long b.toInt64), .second, .val (.long (a * b).toInt64), .second, .val (.long a.toInt64), .second, .val (.long z), .second]) (fun _ => rfl) (pc' := 17) rfl (fun z0 hz => ?_)
  subst z0
  refine s_lload H d10_17 rfl (pc' := 19) rfl ?_
  refine s_lload H d10_19 rfl (pc' := 21) rfl ?_
  refine s_lor H d10_21 (pc' := 22) rfl ?_
  rw [ll_or]
  refine s_bipush H d10_22 (z := (31 : Int32)) (by decide) (pc' := 24) rfl ?_
  refine s_lushr H d10_24 (pc' := 25) rfl ?_
  rw [show ((31 : Int32)) = (31 : Nat).toInt32 from rfl, ll_ushr (by omega) (by decide), Nat.div_eq_of_lt ho]
  refine s_lconst H d10_25 (z := (0 : Int64)) (by decide) (pc' := 26) rfl ?_
  refine s_lcmp H d10_26 (pc' := 27) rfl ?_
  refine s_if H d10_27 (py := 71) (pc' := 30) l_eq (by decide) rfl (fun c27 => ?_) (fun c27 => ?_)
  · refine s_lload H d10_71 rfl (pc' := 73) rfl ?_
    exact s_lret H d10_73 (by decide) (by decide) (⟨rfl, rfl⟩)
  · exact absurd rfl c27
set_option maxRecDepth 65536 in
set_option maxHeartbeats 40000000 in
theorem met_hg {Z : State} (HT : Tb Z) {F : Hp} (b : Nat) (hb : b < 55296) : Met Z y_12 prog_13_method_7_code 4 (some .long) ({ frames := 0, cells := 0, slots := 0, locals := 0 } : Room) [(.int b.toInt32)] (F) (fun v M' => v = some (.long (hg b).toInt64) ∧ M' = F) := by
  refine Met.of HT pl_12 (Ls := #[.val (.int b.toInt32), .unset, .unset, .unset]) (fun m => by first | (simp [entryFrame, mkF, argsToLocals, Value.category]; done) | rfl) (fun k H => ?_)
  refine s_iloadn H d12_0 rfl (pc' := 1) rfl ?_
  refine s_sipush H d12_1 (z := (2048 : Int32)) (by decide) (pc' := 4) rfl ?_
  refine s_icmp H d12_4 (py := 10) (pc' := 7) q_ge (by decide) rfl (fun c4 => ?_) (fun c4 => ?_)
  · rw [show ((2048 : Int32)) = (2048 : Nat).toInt32 from rfl, own_le (by decide) (by omega)] at c4
    refine s_iloadn H d12_10 rfl (pc' := 11) rfl ?_
    refine s_bipush H d12_11 (z := (10 : Int32)) (by decide) (pc' := 13) rfl ?_
    refine s_iushr H d12_13 (pc' := 14) rfl ?_
    rw [show ((10 : Int32)) = (10 : Nat).toInt32 from rfl, own_iush (by omega) (by decide) (by decide), show b / 2 ^ 10 = b / 1024 from rfl]
    refine s_iconst H d12_14 (z := (1 : Int32)) (by decide) (pc' := 15) rfl ?_
    refine s_isub H d12_15 (pc' := 16) rfl ?_
    rw [show (b / 1024).toInt32 - 1 = (b / 1024 - 1).toInt32 from own_subN (n := 1) (by omega) (by omega)]
    refine s_istoren H d12_16 (L' := fun z => #[.val (.int b.toInt32), .val (.int z), .unset, .unset]) (fun _ => rfl) (pc' := 17) rfl (fun z0 hz => ?_)
    subst z0
    refine s_iloadn H d12_17 rfl (pc' := 18) rfl ?_
    refine s_i2l H d12_18 (pc' := 19) rfl ?_
    rw [ll_i2l (by omega)]
    refine s_iloadn H d12_19 rfl (pc' := 20) rfl ?_
    refine s_i2l H d12_20 (pc' := 21) rfl ?_
    rw [ll_i2l (by omega)]
    refine s_bipush H d12_21 (z := (10 : Int32)) (by decide) (pc' := 23) rfl ?_
    refine s_lshl H d12_23 (pc' := 24) rfl ?_
    rw [show ((10 : Int32)) = (10 : Nat).toInt32 from rfl, ll_shl (by decide), show (b / 1024 - 1) * 2 ^ 10 = (b / 1024 - 1) * 1024 from rfl]
    refine s_lsub H d12_24 (pc' := 25) rfl ?_
    rw [ll_sub (by omega)]
    refine s_lstoren H d12_25 (L' := fun z => #[.val (.int b.toInt32), .val (.int (b / 1024 - 1).toInt32), .val (.long z), .second]) (fun _ => rfl) (pc' := 26) rfl (fun z0 hz => ?_)
    subst z0
    refine s_lloadn H d12_26 rfl (pc' := 27) rfl ?_
    refine s_lconst H d12_27 (z := (1 : Int64)) (by decide) (pc' := 28) rfl ?_
    refine s_ladd H d12_28 (pc' := 29) rfl ?_
    rw [show (b - (b / 1024 - 1) * 1024).toInt64 + 1 = (b - (b / 1024 - 1) * 1024 + 1).toInt64 from ll_add _ 1]
    refine s_iloadn H d12_29 rfl (pc' := 30) rfl ?_
    refine s_lshl H d12_30 (pc' := 31) rfl ?_
    rw [ll_shl (by omega)]
    refine s_lconst H d12_31 (z := (1 : Int64)) (by decide) (pc' := 32) rfl ?_
    refine s_lsub H d12_32 (pc' := 33) rfl ?_
    rw [ll_pred (Nat.mul_pos (by omega) (Nat.two_pow_pos _))]
    exact s_lret H d12_33 (by decide) (by decide) (⟨by unfold hg; rw [if_neg (by omega)], rfl⟩)
  · rw [show ((2048 : Int32)) = (2048 : Nat).toInt32 from rfl, own_le (by decide) (by omega)] at c4
    refine s_iloadn H d12_7 rfl (pc' := 8) rfl ?_
    refine s_i2l H d12_8 (pc' := 9) rfl ?_
    rw [ll_i2l (by omega)]
    exact s_lret H d12_9 (by decide) (by decide) (⟨by unfold hg; rw [if_pos (by omega)], rfl⟩)
set_option maxRecDepth 65536 in
set_option maxHeartbeats 40000000 in
theorem q_loop {Z : State} {k : Cx} {F : Hp} {h ca : Addr} {cs : List Int64} {c S : Nat → Nat} {T t rk : Nat} {kk qq : Int64} (d m : Nat) (H : Ok Z k ({ frames := 2, cells := 0, slots := 0, locals := 34 } : Room) (fun v M' => v = some (.long (hg T).toInt64) ∧ M' = ((ca, ArL Z cs) :: (h, Obj Z "com/example/graupel/graupel/benchmark/CallTimeHistogram" [("com/example/graupel/graupel/benchmark/CallTimeHistogram", "counts", "[J", (.ref ca)), ("com/example/graupel/graupel/benchmark/CallTimeHistogram", "total", "J", (.long t.toInt64))]) :: F)) y_9 prog_13_method_5_code 10 (some .long)) (K : HI cs c) (hS : ∀ i, S (i + 1) = S i + c i) (hT : T < 55296) (hlo : ∀ i, i < T → S i + c i < rk) (hhi : rk ≤ S T + c T) (hsm : ∀ i, i ≤ T → S i + c i < 4611686018427387904) (hrk : rk < 4611686018427387904) (hm : m + d = T) : Go Z k 0 0 ((ca, ArL Z cs) :: (h, Obj Z "com/example/graupel/graupel/benchmark/CallTimeHistogram" [("com/example/graupel/graupel/benchmark/CallTimeHistogram", "counts", "[J", (.ref ca)), ("com/example/graupel/graupel/benchmark/CallTimeHistogram", "total", "J", (.long t.toInt64))]) :: F) 68 #[.val (.ref h), .val (.long kk), .second, .val (.long qq), .second, .val (.long rk.toInt64), .second, .val (.long (S m).toInt64), .second, .val (.int m.toInt32)] [] := by
  induction d generalizing m with
  | zero =>
    have sm := hsm m (by omega)
    have eT : T = m := by omega
    rw [eT] at hhi
    refine s_lload H d9_68 rfl (pc' := 70) rfl ?_
    refine s_aloadn H d9_70 rfl rfl (pc' := 71) rfl ?_
    refine s_getf H d9_71 (mem (i := 25) rfl) (i := 1) (j := 0) rfl rfl (pc' := 74) rfl ?_
    refine s_iload H d9_74 rfl (pc' := 76) rfl ?_
    refine s_laload H d9_76 (i := 0) rfl (x := (c m).toInt64) (own_nat (by omega)).2.1 (jn := m) (own_nat (by omega)).1 (K.2 m (by omega)) (pc' := 77) rfl ?_
    refine s_ladd H d9_77 (pc' := 78) rfl ?_
    rw [ll_add]
    refine s_lload H d9_78 rfl (pc' := 80) rfl ?_
    refine s_lcmp H d9_80 (pc' := 81) rfl ?_
    refine s_if H d9_81 (py := 102) (pc' := 84) l_ge (by decide) rfl (fun c81 => ?_) (fun c81 => ?_)
    · rw [ll_le (by omega) (by omega)] at c81
      refine s_iload H d9_102 rfl (pc' := 104) rfl ?_
      refine s_static H (met_hg H.tb m (by omega)) d9_104 (mem (i := 56) rfl) (mem (i := 57) rfl) (mem (i := 3) rfl) (mem (i := 58) rfl) (by decide) pd_12 rfl (rest := []) rfl rfl (by decide) (Nat.le_of_ble_eq_true rfl) (cn' := 0) (sn' := 0) rfl rfl (by decide) (by decide) (pc' := 107) rfl (fun v0 M0 hq => ?_)
      obtain ⟨rfl, hm0⟩ := hq
      subst M0
      show Go Z k 0 0 ((ca, ArL Z cs) :: (h, Obj Z "com/example/graupel/graupel/benchmark/CallTimeHistogram" [("com/example/graupel/graupel/benchmark/CallTimeHistogram", "counts", "[J", (.ref ca)), ("com/example/graupel/graupel/benchmark/CallTimeHistogram", "total", "J", (.long t.toInt64))]) :: F) 107 #[.val (.ref h), .val (.long kk), .second, .val (.long qq), .second, .val (.long rk.toInt64), .second, .val (.long (S m).toInt64), .second, .val (.int m.toInt32)] [(.long (hg m).toInt64)]
      exact s_lret H d9_107 (by decide) (by decide) (⟨by rw [← show m = T from by omega], rfl⟩)
    · rw [ll_le (by omega) (by omega)] at c81
      exact absurd (Nat.lt_of_not_le c81) (by omega)
  | succ d ih =>
    have sm := hsm m (by omega)
    have lo := hlo m (by omega)
    refine s_lload H d9_68 rfl (pc' := 70) rfl ?_
    refine s_aloadn H d9_70 rfl rfl (pc' := 71) rfl ?_
    refine s_getf H d9_71 (mem (i := 25) rfl) (i := 1) (j := 0) rfl rfl (pc' := 74) rfl ?_
    refine s_iload H d9_74 rfl (pc' := 76) rfl ?_
    refine s_laload H d9_76 (i := 0) rfl (x := (c m).toInt64) (own_nat (by omega)).2.1 (jn := m) (own_nat (by omega)).1 (K.2 m (by omega)) (pc' := 77) rfl ?_
    refine s_ladd H d9_77 (pc' := 78) rfl ?_
    rw [ll_add]
    refine s_lload H d9_78 rfl (pc' := 80) rfl ?_
    refine s_lcmp H d9_80 (pc' := 81) rfl ?_
    refine s_if H d9_81 (py := 102) (pc' := 84) l_ge (by decide) rfl (fun c81 => ?_) (fun c81 => ?_)
    · rw [ll_le (by omega) (by omega)] at c81
      exact absurd c81 (by omega)
    · rw [ll_le (by omega) (by omega)] at c81
      refine s_lload H d9_84 rfl (pc' := 86) rfl ?_
      refine s_aloadn H d9_86 rfl rfl (pc' := 87) rfl ?_
      refine s_getf H d9_87 (mem (i := 25) rfl) (i := 1) (j := 0) rfl rfl (pc' := 90) rfl ?_
      refine s_iload H d9_90 rfl (pc' := 92) rfl ?_
      refine s_laload H d9_92 (i := 0) rfl (x := (c m).toInt64) (own_nat (by omega)).2.1 (jn := m) (own_nat (by omega)).1 (K.2 m (by omega)) (pc' := 93) rfl ?_
      refine s_ladd H d9_93 (pc' := 94) rfl ?_
      rw [ll_add, ← hS]
      refine s_lstore H d9_94 (L' := fun z => #[.val (.ref h), .val (.long kk), .second, .val (.long qq), .second, .val (.long rk.toInt64), .second, .val (.long z), .second, .val (.int m.toInt32)]) (fun _ => rfl) (pc' := 96) rfl (fun z0 hz => ?_)
      subst z0
      refine s_iinc H d9_96 rfl (u := (1 : Int32)) (by decide) (L' := fun z => #[.val (.ref h), .val (.long kk), .second, .val (.long qq), .second, .val (.long rk.toInt64), .second, .val (.long (S (m + 1)).toInt64), .second, .val (.int z)]) (fun _ => rfl) (pc' := 99) rfl (fun m2 h_m2 => ?_)
      refine s_goto H d9_99 (pc' := 68) (by decide) ?_
      rw [h_m2, own_succ]
      exact ih (m + 1) (by omega)
set_option maxRecDepth 65536 in
set_option maxHeartbeats 40000000 in
theorem met_q11 {Z : State} (HT : Tb Z) {F : Hp} (h ca : Addr) (cs : List Int64) (c S : Nat → Nat) (T : Nat) (K : HI cs c) (hS : ∀ i, S (i + 1) = S i + c i) (hT : T < 55296) (hlo : ∀ i, i < T → S i + c i < 1) (hhi : 1 ≤ S T + c T) (hsm : ∀ i, i ≤ T → S i + c i < 4611686018427387904) (hrk : 1 < 4611686018427387904) (hS0 : S 0 = 0) : Met Z y_9 prog_13_method_5_code 10 (some .long) ({ frames := 2, cells := 0, slots := 0, locals := 34 } : Room) [(.ref h), (.long (1 : Int64)), (.long (1 : Int64))] ((ca, ArL Z cs) :: (h, Obj Z "com/example/graupel/graupel/benchmark/CallTimeHistogram" [("com/example/graupel/graupel/benchmark/CallTimeHistogram", "counts", "[J", (.ref ca)), ("com/example/graupel/graupel/benchmark/CallTimeHistogram", "total", "J", (.long (1 : Nat).toInt64))]) :: F) (fun v M' => v = some (.long (hg T).toInt64) ∧ M' = ((ca, ArL Z cs) :: (h, Obj Z "com/example/graupel/graupel/benchmark/CallTimeHistogram" [("com/example/graupel/graupel/benchmark/CallTimeHistogram", "counts", "[J", (.ref ca)), ("com/example/graupel/graupel/benchmark/CallTimeHistogram", "total", "J", (.long (1 : Nat).toInt64))]) :: F)) := by
  refine Met.of HT pl_9 (Ls := #[.val (.ref h), .val (.long (1 : Int64)), .second, .val (.long (1 : Int64)), .second, .unset, .unset, .unset, .unset, .unset]) (fun m => by first | (simp [entryFrame, mkF, argsToLocals, Value.category]; done) | rfl) (fun k H => ?_)
  refine s_lloadn H d9_0 rfl (pc' := 1) rfl ?_
  refine s_lconst H d9_1 (z := (1 : Int64)) (by decide) (pc' := 2) rfl ?_
  refine s_lcmp H d9_2 (pc' := 3) rfl ?_
  refine s_if H d9_3 (py := 12) (pc' := 6) l_lt (by decide) rfl (fun c3 => ?_) (fun c3 => ?_)
  · exact absurd c3 (by decide)
  · refine s_lloadn H d9_6 rfl (pc' := 7) rfl ?_
    refine s_lloadn H d9_7 rfl (pc' := 8) rfl ?_
    refine s_lcmp H d9_8 (pc' := 9) rfl ?_
    refine s_if H d9_9 (py := 27) (pc' := 12) l_le (by decide) rfl (fun c9 => ?_) (fun c9 => ?_)
    · refine s_aloadn H d9_27 rfl rfl (pc' := 28) rfl ?_
      refine s_getf H d9_28 (mem (i := 32) rfl) (i := 1) (j := 1) rfl rfl (pc' := 31) rfl ?_
      refine s_lconst H d9_31 (z := (0 : Int64)) (by decide) (pc' := 32) rfl ?_
      refine s_lcmp H d9_32 (pc' := 33) rfl ?_
      refine s_if H d9_33 (py := 46) (pc' := 36) l_ne (by decide) rfl (fun c33 => ?_) (fun c33 => ?_)
      · refine s_lloadn H d9_46 rfl (pc' := 47) rfl ?_
        refine s_aloadn H d9_47 rfl rfl (pc' := 48) rfl ?_
        refine s_getf H d9_48 (mem (i := 32) rfl) (i := 1) (j := 1) rfl rfl (pc' := 51) rfl ?_
        refine s_static H (met_mx H.tb 1 1 (by decide) (by decide)) d9_51 (mem (i := 49) rfl) (mem (i := 50) rfl) (mem (i := 51) rfl) (mem (i := 52) rfl) (by decide) pd_10 rfl (rest := []) rfl rfl (by decide) (Nat.le_of_ble_eq_true rfl) (cn' := 0) (sn' := 0) rfl rfl (by decide) (by decide) (pc' := 54) rfl (fun v0 M0 hq => ?_)
        obtain ⟨rfl, hm0⟩ := hq
        subst M0
        show Go Z k 0 0 ((ca, ArL Z cs) :: (h, Obj Z "com/example/graupel/graupel/benchmark/CallTimeHistogram" [("com/example/graupel/graupel/benchmark/CallTimeHistogram", "counts", "[J", (.ref ca)), ("com/example/graupel/graupel/benchmark/CallTimeHistogram", "total", "J", (.long (1 : Nat).toInt64))]) :: F) 54 #[.val (.ref h), .val (.long (1 : Int64)), .second, .val (.long (1 : Int64)), .second, .unset, .unset, .unset, .unset, .unset] [(.long (1 : Nat).toInt64)]
        refine s_lloadn H d9_54 rfl (pc' := 55) rfl ?_
        refine s_ladd H d9_55 (pc' := 56) rfl ?_
        refine s_lconst H d9_56 (z := (1 : Int64)) (by decide) (pc' := 57) rfl ?_
        refine s_lsub H d9_57 (pc' := 58) rfl ?_
        refine s_lloadn H d9_58 rfl (pc' := 59) rfl ?_
        refine s_ldiv H d9_59 (by decide) (pc' := 60) rfl ?_
        rw [show ((((1 : Nat).toInt64 + (1 : Int64)) - (1 : Int64)) / (1 : Int64)) = (1 : Nat).toInt64 from by decide]
        refine s_lstore H d9_60 (L' := fun z => #[.val (.ref h), .val (.long (1 : Int64)), .second, .val (.long (1 : Int64)), .second, .val (.long z), .second, .unset, .unset, .unset]) (fun _ => rfl) (pc' := 62) rfl (fun z0 hz => ?_)
        subst z0
        refine s_lconst H d9_62 (z := (0 : Int64)) (by decide) (pc' := 63) rfl ?_
        refine s_lstore H d9_63 (L' := fun z => #[.val (.ref h), .val (.long (1 : Int64)), .second, .val (.long (1 : Int64)), .second, .val (.long (1 : Nat).toInt64), .second, .val (.long z), .second, .unset]) (fun _ => rfl) (pc' := 65) rfl (fun z0 hz => ?_)
        subst z0
        refine s_iconst H d9_65 (z := (0 : Int32)) (by decide) (pc' := 66) rfl ?_
        refine s_istore H d9_66 (L' := fun z => #[.val (.ref h), .val (.long (1 : Int64)), .second, .val (.long (1 : Int64)), .second, .val (.long (1 : Nat).toInt64), .second, .val (.long (0 : Int64)), .second, .val (.int z)]) (fun _ => rfl) (pc' := 68) rfl (fun z0 hz => ?_)
        subst z0
        have e0 : (0 : Int64) = (S 0).toInt64 := by rw [hS0]; rfl
        rw [e0]
        exact q_loop (rk := 1) T 0 H K hS hT hlo hhi hsm hrk (by omega)
      · exact absurd (by decide) c33
    · exact absurd c9 (by decide)
set_option maxRecDepth 65536 in
set_option maxHeartbeats 40000000 in
theorem met_q12 {Z : State} (HT : Tb Z) {F : Hp} (h ca : Addr) (cs : List Int64) (c S : Nat → Nat) (T : Nat) (K : HI cs c) (hS : ∀ i, S (i + 1) = S i + c i) (hT : T < 55296) (hlo : ∀ i, i < T → S i + c i < 1) (hhi : 1 ≤ S T + c T) (hsm : ∀ i, i ≤ T → S i + c i < 4611686018427387904) (hrk : 1 < 4611686018427387904) (hS0 : S 0 = 0) : Met Z y_9 prog_13_method_5_code 10 (some .long) ({ frames := 2, cells := 0, slots := 0, locals := 34 } : Room) [(.ref h), (.long (1 : Int64)), (.long (2 : Int64))] ((ca, ArL Z cs) :: (h, Obj Z "com/example/graupel/graupel/benchmark/CallTimeHistogram" [("com/example/graupel/graupel/benchmark/CallTimeHistogram", "counts", "[J", (.ref ca)), ("com/example/graupel/graupel/benchmark/CallTimeHistogram", "total", "J", (.long (2 : Nat).toInt64))]) :: F) (fun v M' => v = some (.long (hg T).toInt64) ∧ M' = ((ca, ArL Z cs) :: (h, Obj Z "com/example/graupel/graupel/benchmark/CallTimeHistogram" [("com/example/graupel/graupel/benchmark/CallTimeHistogram", "counts", "[J", (.ref ca)), ("com/example/graupel/graupel/benchmark/CallTimeHistogram", "total", "J", (.long (2 : Nat).toInt64))]) :: F)) := by
  refine Met.of HT pl_9 (Ls := #[.val (.ref h), .val (.long (1 : Int64)), .second, .val (.long (2 : Int64)), .second, .unset, .unset, .unset, .unset, .unset]) (fun m => by first | (simp [entryFrame, mkF, argsToLocals, Value.category]; done) | rfl) (fun k H => ?_)
  refine s_lloadn H d9_0 rfl (pc' := 1) rfl ?_
  refine s_lconst H d9_1 (z := (1 : Int64)) (by decide) (pc' := 2) rfl ?_
  refine s_lcmp H d9_2 (pc' := 3) rfl ?_
  refine s_if H d9_3 (py := 12) (pc' := 6) l_lt (by decide) rfl (fun c3 => ?_) (fun c3 => ?_)
  · exact absurd c3 (by decide)
  · refine s_lloadn H d9_6 rfl (pc' := 7) rfl ?_
    refine s_lloadn H d9_7 rfl (pc' := 8) rfl ?_
    refine s_lcmp H d9_8 (pc' := 9) rfl ?_
    refine s_if H d9_9 (py := 27) (pc' := 12) l_le (by decide) rfl (fun c9 => ?_) (fun c9 => ?_)
    · refine s_aloadn H d9_27 rfl rfl (pc' := 28) rfl ?_
      refine s_getf H d9_28 (mem (i := 32) rfl) (i := 1) (j := 1) rfl rfl (pc' := 31) rfl ?_
      refine s_lconst H d9_31 (z := (0 : Int64)) (by decide) (pc' := 32) rfl ?_
      refine s_lcmp H d9_32 (pc' := 33) rfl ?_
      refine s_if H d9_33 (py := 46) (pc' := 36) l_ne (by decide) rfl (fun c33 => ?_) (fun c33 => ?_)
      · refine s_lloadn H d9_46 rfl (pc' := 47) rfl ?_
        refine s_aloadn H d9_47 rfl rfl (pc' := 48) rfl ?_
        refine s_getf H d9_48 (mem (i := 32) rfl) (i := 1) (j := 1) rfl rfl (pc' := 51) rfl ?_
        refine s_static H (met_mx H.tb 1 2 (by decide) (by decide)) d9_51 (mem (i := 49) rfl) (mem (i := 50) rfl) (mem (i := 51) rfl) (mem (i := 52) rfl) (by decide) pd_10 rfl (rest := []) rfl rfl (by decide) (Nat.le_of_ble_eq_true rfl) (cn' := 0) (sn' := 0) rfl rfl (by decide) (by decide) (pc' := 54) rfl (fun v0 M0 hq => ?_)
        obtain ⟨rfl, hm0⟩ := hq
        subst M0
        show Go Z k 0 0 ((ca, ArL Z cs) :: (h, Obj Z "com/example/graupel/graupel/benchmark/CallTimeHistogram" [("com/example/graupel/graupel/benchmark/CallTimeHistogram", "counts", "[J", (.ref ca)), ("com/example/graupel/graupel/benchmark/CallTimeHistogram", "total", "J", (.long (2 : Nat).toInt64))]) :: F) 54 #[.val (.ref h), .val (.long (1 : Int64)), .second, .val (.long (2 : Int64)), .second, .unset, .unset, .unset, .unset, .unset] [(.long (2 : Nat).toInt64)]
        refine s_lloadn H d9_54 rfl (pc' := 55) rfl ?_
        refine s_ladd H d9_55 (pc' := 56) rfl ?_
        refine s_lconst H d9_56 (z := (1 : Int64)) (by decide) (pc' := 57) rfl ?_
        refine s_lsub H d9_57 (pc' := 58) rfl ?_
        refine s_lloadn H d9_58 rfl (pc' := 59) rfl ?_
        refine s_ldiv H d9_59 (by decide) (pc' := 60) rfl ?_
        rw [show ((((2 : Nat).toInt64 + (2 : Int64)) - (1 : Int64)) / (2 : Int64)) = (1 : Nat).toInt64 from by decide]
        refine s_lstore H d9_60 (L' := fun z => #[.val (.ref h), .val (.long (1 : Int64)), .second, .val (.long (2 : Int64)), .second, .val (.long z), .second, .unset, .unset, .unset]) (fun _ => rfl) (pc' := 62) rfl (fun z0 hz => ?_)
        subst z0
        refine s_lconst H d9_62 (z := (0 : Int64)) (by decide) (pc' := 63) rfl ?_
        refine s_lstore H d9_63 (L' := fun z => #[.val (.ref h), .val (.long (1 : Int64)), .second, .val (.long (2 : Int64)), .second, .val (.long (1 : Nat).toInt64), .second, .val (.long z), .second, .unset]) (fun _ => rfl) (pc' := 65) rfl (fun z0 hz => ?_)
        subst z0
        refine s_iconst H d9_65 (z := (0 : Int32)) (by decide) (pc' := 66) rfl ?_
        refine s_istore H d9_66 (L' := fun z => #[.val (.ref h), .val (.long (1 : Int64)), .second, .val (.long (2 : Int64)), .second, .val (.long (1 : Nat).toInt64), .second, .val (.long (0 : Int64)), .second, .val (.int z)]) (fun _ => rfl) (pc' := 68) rfl (fun z0 hz => ?_)
        subst z0
        have e0 : (0 : Int64) = (S 0).toInt64 := by rw [hS0]; rfl
        rw [e0]
        exact q_loop (rk := 1) T 0 H K hS hT hlo hhi hsm hrk (by omega)
      · exact absurd (by decide) c33
    · exact absurd c9 (by decide)
set_option maxRecDepth 65536 in
set_option maxHeartbeats 40000000 in
theorem met_q22 {Z : State} (HT : Tb Z) {F : Hp} (h ca : Addr) (cs : List Int64) (c S : Nat → Nat) (T : Nat) (K : HI cs c) (hS : ∀ i, S (i + 1) = S i + c i) (hT : T < 55296) (hlo : ∀ i, i < T → S i + c i < 2) (hhi : 2 ≤ S T + c T) (hsm : ∀ i, i ≤ T → S i + c i < 4611686018427387904) (hrk : 2 < 4611686018427387904) (hS0 : S 0 = 0) : Met Z y_9 prog_13_method_5_code 10 (some .long) ({ frames := 2, cells := 0, slots := 0, locals := 34 } : Room) [(.ref h), (.long (2 : Int64)), (.long (2 : Int64))] ((ca, ArL Z cs) :: (h, Obj Z "com/example/graupel/graupel/benchmark/CallTimeHistogram" [("com/example/graupel/graupel/benchmark/CallTimeHistogram", "counts", "[J", (.ref ca)), ("com/example/graupel/graupel/benchmark/CallTimeHistogram", "total", "J", (.long (2 : Nat).toInt64))]) :: F) (fun v M' => v = some (.long (hg T).toInt64) ∧ M' = ((ca, ArL Z cs) :: (h, Obj Z "com/example/graupel/graupel/benchmark/CallTimeHistogram" [("com/example/graupel/graupel/benchmark/CallTimeHistogram", "counts", "[J", (.ref ca)), ("com/example/graupel/graupel/benchmark/CallTimeHistogram", "total", "J", (.long (2 : Nat).toInt64))]) :: F)) := by
  refine Met.of HT pl_9 (Ls := #[.val (.ref h), .val (.long (2 : Int64)), .second, .val (.long (2 : Int64)), .second, .unset, .unset, .unset, .unset, .unset]) (fun m => by first | (simp [entryFrame, mkF, argsToLocals, Value.category]; done) | rfl) (fun k H => ?_)
  refine s_lloadn H d9_0 rfl (pc' := 1) rfl ?_
  refine s_lconst H d9_1 (z := (1 : Int64)) (by decide) (pc' := 2) rfl ?_
  refine s_lcmp H d9_2 (pc' := 3) rfl ?_
  refine s_if H d9_3 (py := 12) (pc' := 6) l_lt (by decide) rfl (fun c3 => ?_) (fun c3 => ?_)
  · exact absurd c3 (by decide)
  · refine s_lloadn H d9_6 rfl (pc' := 7) rfl ?_
    refine s_lloadn H d9_7 rfl (pc' := 8) rfl ?_
    refine s_lcmp H d9_8 (pc' := 9) rfl ?_
    refine s_if H d9_9 (py := 27) (pc' := 12) l_le (by decide) rfl (fun c9 => ?_) (fun c9 => ?_)
    · refine s_aloadn H d9_27 rfl rfl (pc' := 28) rfl ?_
      refine s_getf H d9_28 (mem (i := 32) rfl) (i := 1) (j := 1) rfl rfl (pc' := 31) rfl ?_
      refine s_lconst H d9_31 (z := (0 : Int64)) (by decide) (pc' := 32) rfl ?_
      refine s_lcmp H d9_32 (pc' := 33) rfl ?_
      refine s_if H d9_33 (py := 46) (pc' := 36) l_ne (by decide) rfl (fun c33 => ?_) (fun c33 => ?_)
      · refine s_lloadn H d9_46 rfl (pc' := 47) rfl ?_
        refine s_aloadn H d9_47 rfl rfl (pc' := 48) rfl ?_
        refine s_getf H d9_48 (mem (i := 32) rfl) (i := 1) (j := 1) rfl rfl (pc' := 51) rfl ?_
        refine s_static H (met_mx H.tb 2 2 (by decide) (by decide)) d9_51 (mem (i := 49) rfl) (mem (i := 50) rfl) (mem (i := 51) rfl) (mem (i := 52) rfl) (by decide) pd_10 rfl (rest := []) rfl rfl (by decide) (Nat.le_of_ble_eq_true rfl) (cn' := 0) (sn' := 0) rfl rfl (by decide) (by decide) (pc' := 54) rfl (fun v0 M0 hq => ?_)
        obtain ⟨rfl, hm0⟩ := hq
        subst M0
        show Go Z k 0 0 ((ca, ArL Z cs) :: (h, Obj Z "com/example/graupel/graupel/benchmark/CallTimeHistogram" [("com/example/graupel/graupel/benchmark/CallTimeHistogram", "counts", "[J", (.ref ca)), ("com/example/graupel/graupel/benchmark/CallTimeHistogram", "total", "J", (.long (2 : Nat).toInt64))]) :: F) 54 #[.val (.ref h), .val (.long (2 : Int64)), .second, .val (.long (2 : Int64)), .second, .unset, .unset, .unset, .unset, .unset] [(.long (4 : Nat).toInt64)]
        refine s_lloadn H d9_54 rfl (pc' := 55) rfl ?_
        refine s_ladd H d9_55 (pc' := 56) rfl ?_
        refine s_lconst H d9_56 (z := (1 : Int64)) (by decide) (pc' := 57) rfl ?_
        refine s_lsub H d9_57 (pc' := 58) rfl ?_
        refine s_lloadn H d9_58 rfl (pc' := 59) rfl ?_
        refine s_ldiv H d9_59 (by decide) (pc' := 60) rfl ?_
        rw [show ((((4 : Nat).toInt64 + (2 : Int64)) - (1 : Int64)) / (2 : Int64)) = (2 : Nat).toInt64 from by decide]
        refine s_lstore H d9_60 (L' := fun z => #[.val (.ref h), .val (.long (2 : Int64)), .second, .val (.long (2 : Int64)), .second, .val (.long z), .second, .unset, .unset, .unset]) (fun _ => rfl) (pc' := 62) rfl (fun z0 hz => ?_)
        subst z0
        refine s_lconst H d9_62 (z := (0 : Int64)) (by decide) (pc' := 63) rfl ?_
        refine s_lstore H d9_63 (L' := fun z => #[.val (.ref h), .val (.long (2 : Int64)), .second, .val (.long (2 : Int64)), .second, .val (.long (2 : Nat).toInt64), .second, .val (.long z), .second, .unset]) (fun _ => rfl) (pc' := 65) rfl (fun z0 hz => ?_)
        subst z0
        refine s_iconst H d9_65 (z := (0 : Int32)) (by decide) (pc' := 66) rfl ?_
        refine s_istore H d9_66 (L' := fun z => #[.val (.ref h), .val (.long (2 : Int64)), .second, .val (.long (2 : Int64)), .second, .val (.long (2 : Nat).toInt64), .second, .val (.long (0 : Int64)), .second, .val (.int z)]) (fun _ => rfl) (pc' := 68) rfl (fun z0 hz => ?_)
        subst z0
        have e0 : (0 : Int64) = (S 0).toInt64 := by rw [hS0]; rfl
        rw [e0]
        exact q_loop (rk := 2) T 0 H K hS hT hlo hhi hsm hrk (by omega)
      · exact absurd (by decide) c33
    · exact absurd c9 (by decide)
def c1 (x i : Nat) : Nat := 0 + if i = x then 1 else 0
def S1 (x i : Nat) : Nat := if x < i then 1 else 0
def c2 (x y i : Nat) : Nat := c1 x i + if i = y then 1 else 0
def S2 (x y i : Nat) : Nat := (if x < i then 1 else 0) + if y < i then 1 else 0
theorem S1_s (x i : Nat) : S1 x (i + 1) = S1 x i + c1 x i := by unfold S1 c1; split <;> split <;> split <;> omega
theorem S2_s (x y i : Nat) : S2 x y (i + 1) = S2 x y i + c2 x y i := by unfold S2 c2 c1; split <;> split <;> split <;> split <;> split <;> split <;> omega
theorem c1_b (x i : Nat) : S1 x i + c1 x i ≤ 2 := by unfold S1 c1; split <;> split <;> omega
theorem c2_b (x y i : Nat) : S2 x y i + c2 x y i ≤ 4 := by unfold S2 c2 c1; split <;> split <;> split <;> split <;> omega
theorem q_lo1 {x y i : Nat} (h : i < min x y) : S2 x y i + c2 x y i < 1 := by unfold S2 c2 c1; split <;> split <;> split <;> split <;> omega
theorem q_hi1 {x y : Nat} : 1 ≤ S2 x y (min x y) + c2 x y (min x y) := by unfold S2 c2 c1; split <;> split <;> split <;> split <;> omega
theorem q_lo2 {x y i : Nat} (h : i < max x y) : S2 x y i + c2 x y i < 2 := by unfold S2 c2 c1; split <;> split <;> split <;> split <;> omega
theorem q_hi2 {x y : Nat} : 2 ≤ S2 x y (max x y) + c2 x y (max x y) := by unfold S2 c2 c1; split <;> split <;> split <;> split <;> omega
theorem HI.congr {cs : List Int64} {c d : Nat → Nat} (K : HI cs c) (h : ∀ i, c i = d i) : HI cs d := ⟨K.1, fun i hi => by rw [← h i]; exact K.2 i hi⟩
theorem own_p2 {a b x y : Addr × (Cell → Prop)} {S : Hp} : (a :: b :: x :: y :: S).Perm (x :: y :: a :: b :: S) := (List.perm_append_comm (l₁ := [a, b]) (l₂ := [x, y])).append_right S
theorem own_p3 {a b c d x y : Addr × (Cell → Prop)} {S : Hp} : (a :: b :: c :: d :: x :: y :: S).Perm (x :: y :: a :: b :: c :: d :: S) := (List.perm_append_comm (l₁ := [a, b, c, d]) (l₂ := [x, y])).append_right S
theorem HI.step {cs : List Int64} {c d : Nat → Nat} {m : Nat} (K : HI cs (fun i => if i < m then c i + d i else c i)) (hm : m < 55296) : HI (cs.set m (c m + d m).toInt64) (fun i => if i < m + 1 then c i + d i else c i) := by
  refine ⟨by rw [List.length_set]; exact K.1, fun i hi => ?_⟩
  by_cases e : i = m
  · subst e; rw [List.getElem?_set_self (by rw [K.1]; exact hi)]; simp
  · rw [List.getElem?_set_ne (Ne.symm e), K.2 i hi]
    have : (i < m) ↔ (i < m + 1) := by omega
    simp [this]
theorem hist_add (a b : Nat) : a.toInt64 + b.toInt64 = (a + b).toInt64 := ll_add a b
set_option maxRecDepth 65536 in
set_option maxHeartbeats 40000000 in
theorem a_loop {Z : State} {k : Cx} {F : Hp} {h ca g cb : Addr} {ds : List Int64} {c d : Nat → Nat} {t u : Nat} (e m : Nat) (cs : List Int64) (H : Ok Z k ({ frames := 0, cells := 0, slots := 0, locals := 0 } : Room) (fun v M' => ∃ cs' : List Int64, HI cs' (fun i => c i + d i) ∧ v = none ∧ M' = ((ca, ArL Z cs') :: (h, Obj Z "com/example/graupel/graupel/benchmark/CallTimeHistogram" [("com/example/graupel/graupel/benchmark/CallTimeHistogram", "counts", "[J", (.ref ca)), ("com/example/graupel/graupel/benchmark/CallTimeHistogram", "total", "J", (.long (t + u).toInt64))]) :: (cb, ArL Z ds) :: (g, Obj Z "com/example/graupel/graupel/benchmark/CallTimeHistogram" [("com/example/graupel/graupel/benchmark/CallTimeHistogram", "counts", "[J", (.ref cb)), ("com/example/graupel/graupel/benchmark/CallTimeHistogram", "total", "J", (.long u.toInt64))]) :: F)) y_6 prog_13_method_3_code 3 none) (D : HI ds d) (K : HI cs (fun i => if i < m then c i + d i else c i)) (hm : m + e = 55296) : Go Z k 0 0 ((ca, ArL Z cs) :: (h, Obj Z "com/example/graupel/graupel/benchmark/CallTimeHistogram" [("com/example/graupel/graupel/benchmark/CallTimeHistogram", "counts", "[J", (.ref ca)), ("com/example/graupel/graupel/benchmark/CallTimeHistogram", "total", "J", (.long t.toInt64))]) :: (cb, ArL Z ds) :: (g, Obj Z "com/example/graupel/graupel/benchmark/CallTimeHistogram" [("com/example/graupel/graupel/benchmark/CallTimeHistogram", "counts", "[J", (.ref cb)), ("com/example/graupel/graupel/benchmark/CallTimeHistogram", "total", "J", (.long u.toInt64))]) :: F) 2 #[.val (.ref h), .val (.ref g), .val (.int m.toInt32)] [] := by
  induction e generalizing m cs with
  | zero =>
    refine s_iloadn H d6_2 rfl (pc' := 3) rfl ?_
    refine s_aloadn H d6_3 rfl rfl (pc' := 4) rfl ?_
    refine s_getf H d6_4 (mem (i := 25) rfl) (i := 1) (j := 0) rfl rfl (pc' := 7) rfl ?_
    refine s_alenL H d6_7 (i := 0) rfl (z := (55296 : Nat).toInt32) (by rw [K.1]) (pc' := 8) rfl ?_
    refine s_icmp H d6_8 (py := 32) (pc' := 11) q_ge (by decide) rfl (fun c8 => ?_) (fun c8 => ?_)
    · refine s_aloadn H d6_32 rfl rfl (pc' := 33) rfl ?_
      refine s_dup H d6_33 rfl (pc' := 34) rfl ?_
      refine s_getf H d6_34 (mem (i := 32) rfl) (i := 1) (j := 1) rfl rfl (pc' := 37) rfl ?_
      refine s_aloadn H d6_37 rfl rfl (pc' := 38) rfl ?_
      refine s_getf H d6_38 (mem (i := 32) rfl) (i := 3) (j := 1) rfl rfl (pc' := 41) rfl ?_
      refine s_ladd H d6_41 (pc' := 42) rfl ?_
      rw [hist_add]
      refine s_putf H d6_42 (mem (i := 32) rfl) (Or.inl (mem (i := 33) rfl)) (mem (i := 2) rfl) (ty := .long) (by decide) rfl rfl (i := 1) (j := 1) rfl rfl (pc' := 45) rfl ?_
      show Go Z k 0 0 ((ca, ArL Z cs) :: (h, Obj Z "com/example/graupel/graupel/benchmark/CallTimeHistogram" [("com/example/graupel/graupel/benchmark/CallTimeHistogram", "counts", "[J", (.ref ca)), ("com/example/graupel/graupel/benchmark/CallTimeHistogram", "total", "J", (.long (t + u).toInt64))]) :: (cb, ArL Z ds) :: (g, Obj Z "com/example/graupel/graupel/benchmark/CallTimeHistogram" [("com/example/graupel/graupel/benchmark/CallTimeHistogram", "counts", "[J", (.ref cb)), ("com/example/graupel/graupel/benchmark/CallTimeHistogram", "total", "J", (.long u.toInt64))]) :: F) 45 #[.val (.ref h), .val (.ref g), .val (.int m.toInt32)] []
      exact s_vret H d6_45 (by decide) (by decide) (⟨cs, ⟨K.1, fun i hi => by rw [K.2 i hi]; simp [show i < m from by omega]⟩, rfl, rfl⟩)
    · exact absurd ((own_le (by decide) (by omega)).mpr (by omega)) c8
  | succ e ih =>
    refine s_iloadn H d6_2 rfl (pc' := 3) rfl ?_
    refine s_aloadn H d6_3 rfl rfl (pc' := 4) rfl ?_
    refine s_getf H d6_4 (mem (i := 25) rfl) (i := 1) (j := 0) rfl rfl (pc' := 7) rfl ?_
    refine s_alenL H d6_7 (i := 0) rfl (z := (55296 : Nat).toInt32) (by rw [K.1]) (pc' := 8) rfl ?_
    refine s_icmp H d6_8 (py := 32) (pc' := 11) q_ge (by decide) rfl (fun c8 => ?_) (fun c8 => ?_)
    · exact absurd ((own_le (by decide) (by omega)).mp c8) (by omega)
    · refine s_aloadn H d6_11 rfl rfl (pc' := 12) rfl ?_
      refine s_getf H d6_12 (mem (i := 25) rfl) (i := 1) (j := 0) rfl rfl (pc' := 15) rfl ?_
      refine s_iloadn H d6_15 rfl (pc' := 16) rfl ?_
      refine s_dup2 H d6_16 rfl rfl (pc' := 17) rfl ?_
      refine s_laload H d6_17 (i := 0) rfl (x := (c m).toInt64) (own_nat (by omega)).2.1 (jn := m) (own_nat (by omega)).1 (by have := K.2 m (by omega); simpa using this) (pc' := 18) rfl ?_
      refine s_aloadn H d6_18 rfl rfl (pc' := 19) rfl ?_
      refine s_getf H d6_19 (mem (i := 25) rfl) (i := 3) (j := 0) rfl rfl (pc' := 22) rfl ?_
      refine s_iloadn H d6_22 rfl (pc' := 23) rfl ?_
      refine s_laload H d6_23 (i := 2) rfl (x := (d m).toInt64) (own_nat (by omega)).2.1 (jn := m) (own_nat (by omega)).1 (D.2 m (by omega)) (pc' := 24) rfl ?_
      refine s_ladd H d6_24 (pc' := 25) rfl ?_
      rw [hist_add]
      refine s_lastore H d6_25 (i := 0) rfl (own_nat (by omega)).2.1 (jn := m) (own_nat (by omega)).1 (by rw [K.1]; omega) (pc' := 26) rfl ?_
      show Go Z k 0 0 ((ca, ArL Z (cs.set m (c m + d m).toInt64)) :: (h, Obj Z "com/example/graupel/graupel/benchmark/CallTimeHistogram" [("com/example/graupel/graupel/benchmark/CallTimeHistogram", "counts", "[J", (.ref ca)), ("com/example/graupel/graupel/benchmark/CallTimeHistogram", "total", "J", (.long t.toInt64))]) :: (cb, ArL Z ds) :: (g, Obj Z "com/example/graupel/graupel/benchmark/CallTimeHistogram" [("com/example/graupel/graupel/benchmark/CallTimeHistogram", "counts", "[J", (.ref cb)), ("com/example/graupel/graupel/benchmark/CallTimeHistogram", "total", "J", (.long u.toInt64))]) :: F) 26 #[.val (.ref h), .val (.ref g), .val (.int m.toInt32)] []
      refine s_iinc H d6_26 rfl (u := (1 : Int32)) (by decide) (L' := fun z => #[.val (.ref h), .val (.ref g), .val (.int z)]) (fun _ => rfl) (pc' := 29) rfl (fun m2 h_m2 => ?_)
      refine s_goto H d6_29 (pc' := 2) (by decide) ?_
      rw [h_m2, own_succ]
      exact ih (m + 1) _ (K.step (by omega)) (by omega)
set_option maxRecDepth 65536 in
set_option maxHeartbeats 40000000 in
theorem met_ha {Z : State} (HT : Tb Z) {F : Hp} (h ca g cb : Addr) (cs ds : List Int64) (c d : Nat → Nat) (t u : Nat) (K : HI cs c) (D : HI ds d) : Met Z y_6 prog_13_method_3_code 3 none ({ frames := 0, cells := 0, slots := 0, locals := 0 } : Room) [(.ref h), (.ref g)] ((ca, ArL Z cs) :: (h, Obj Z "com/example/graupel/graupel/benchmark/CallTimeHistogram" [("com/example/graupel/graupel/benchmark/CallTimeHistogram", "counts", "[J", (.ref ca)), ("com/example/graupel/graupel/benchmark/CallTimeHistogram", "total", "J", (.long t.toInt64))]) :: (cb, ArL Z ds) :: (g, Obj Z "com/example/graupel/graupel/benchmark/CallTimeHistogram" [("com/example/graupel/graupel/benchmark/CallTimeHistogram", "counts", "[J", (.ref cb)), ("com/example/graupel/graupel/benchmark/CallTimeHistogram", "total", "J", (.long u.toInt64))]) :: F) (fun v M' => ∃ cs' : List Int64, HI cs' (fun i => c i + d i) ∧ v = none ∧ M' = ((ca, ArL Z cs') :: (h, Obj Z "com/example/graupel/graupel/benchmark/CallTimeHistogram" [("com/example/graupel/graupel/benchmark/CallTimeHistogram", "counts", "[J", (.ref ca)), ("com/example/graupel/graupel/benchmark/CallTimeHistogram", "total", "J", (.long (t + u).toInt64))]) :: (cb, ArL Z ds) :: (g, Obj Z "com/example/graupel/graupel/benchmark/CallTimeHistogram" [("com/example/graupel/graupel/benchmark/CallTimeHistogram", "counts", "[J", (.ref cb)), ("com/example/graupel/graupel/benchmark/CallTimeHistogram", "total", "J", (.long u.toInt64))]) :: F)) := by
  refine Met.of HT pl_6 (Ls := #[.val (.ref h), .val (.ref g), .unset]) (fun m => by first | (simp [entryFrame, mkF, argsToLocals, Value.category]; done) | rfl) (fun k H => ?_)
  refine s_iconst H d6_0 (z := (0 : Int32)) (by decide) (pc' := 1) rfl ?_
  refine s_istoren H d6_1 (L' := fun z => #[.val (.ref h), .val (.ref g), .val (.int z)]) (fun _ => rfl) (pc' := 2) rfl (fun z0 hz => ?_)
  subst z0
  exact a_loop 55296 0 cs H D (K.congr (fun i => by simp)) (by omega)
set_option maxRecDepth 65536 in
set_option maxHeartbeats 40000000 in
theorem s42_00 {Z : State} {k : Cx} {i0 i1 : Int64} {i2 : Int32} (xa ya : Nat) (H : Ok Z k room_1 (LQ) x code maxLocals ret) (hx : xa < 9223372036854775808) (hy : ya < 9223372036854775808) : Go Z k 0 0 ([] : Hp) 42 #[.val (.long i0), .second, .val (.long i1), .second, .val (.int i2), .val (.long xa.toInt64), .second, .val (.long ya.toInt64), .second, .val (.int (0 : Int32)), .val (.int (0 : Int32)), .unset, .unset, .unset, .unset, .unset, .unset, .unset, .unset, .unset, .unset, .unset] [] := by
  refine s_new H (C := "com/example/graupel/graupel/benchmark/CallTimeHistogram") [("com/example/graupel/graupel/benchmark/CallTimeHistogram", "counts", "[J", .null), ("com/example/graupel/graupel/benchmark/CallTimeHistogram", "total", "J", (.long (0 : Int64)))] at_42 (mem (i := 1) rfl) (mem (i := 2) rfl) (mem (i := 3) rfl) (allC ⟨Or.inr (mem (i := 26) rfl), (.array .long), by decide, rfl⟩ (allC ⟨Or.inl (mem (i := 33) rfl), .long, by decide, rfl⟩ allN)) (by decide) (cn' := 1) (sn' := 2) rfl rfl (by decide) (by decide) (pc' := 45) rfl (fun a1 => ?_)
  refine s_dup H at_45 rfl (pc' := 46) rfl ?_
  refine s_init H (met_hi H.tb a1) at_46 rfl (mem (i := 4) rfl) (mem (i := 5) rfl) (mem (i := 3) rfl) (mem (i := 6) rfl) (by decide) pd_1 rfl (rest := [(.ref a1)]) rfl rfl (by decide) (Nat.le_of_ble_eq_true rfl) (cn' := 2) (sn' := 55298) rfl rfl (by decide) (by decide) (pc' := 49) rfl (fun v0 M0 hq => ?_)
  obtain ⟨ca2, cs2, Kcs2, rfl, hm0⟩ := hq
  subst M0
  show Go Z k 2 55298 ((ca2, ArL Z cs2) :: (a1, Obj Z "com/example/graupel/graupel/benchmark/CallTimeHistogram" [("com/example/graupel/graupel/benchmark/CallTimeHistogram", "counts", "[J", (.ref ca2)), ("com/example/graupel/graupel/benchmark/CallTimeHistogram", "total", "J", (.long (0 : Nat).toInt64))]) :: []) 49 #[.val (.long i0), .second, .val (.long i1), .second, .val (.int i2), .val (.long xa.toInt64), .second, .val (.long ya.toInt64), .second, .val (.int (0 : Int32)), .val (.int (0 : Int32)), .unset, .unset, .unset, .unset, .unset, .unset, .unset, .unset, .unset, .unset, .unset] [(.ref a1)]
  refine s_astore H at_49 (L' := #[.val (.long i0), .second, .val (.long i1), .second, .val (.int i2), .val (.long xa.toInt64), .second, .val (.long ya.toInt64), .second, .val (.int (0 : Int32)), .val (.int (0 : Int32)), .val (.ref a1), .unset, .unset, .unset, .unset, .unset, .unset, .unset, .unset, .unset, .unset]) rfl rfl (pc' := 51) rfl ?_
  refine s_new H (C := "com/example/graupel/graupel/benchmark/CallTimeHistogram") [("com/example/graupel/graupel/benchmark/CallTimeHistogram", "counts", "[J", .null), ("com/example/graupel/graupel/benchmark/CallTimeHistogram", "total", "J", (.long (0 : Int64)))] at_51 (mem (i := 1) rfl) (mem (i := 2) rfl) (mem (i := 3) rfl) (allC ⟨Or.inr (mem (i := 26) rfl), (.array .long), by decide, rfl⟩ (allC ⟨Or.inl (mem (i := 33) rfl), .long, by decide, rfl⟩ allN)) (by decide) (cn' := 3) (sn' := 55300) rfl rfl (by decide) (by decide) (pc' := 54) rfl (fun a3 => ?_)
  refine s_dup H at_54 rfl (pc' := 55) rfl ?_
  refine s_init H (met_hi H.tb a3) at_55 rfl (mem (i := 4) rfl) (mem (i := 5) rfl) (mem (i := 3) rfl) (mem (i := 6) rfl) (by decide) pd_1 rfl (rest := [(.ref a3)]) rfl rfl (by decide) (Nat.le_of_ble_eq_true rfl) (cn' := 4) (sn' := 110596) rfl rfl (by decide) (by decide) (pc' := 58) rfl (fun v0 M0 hq => ?_)
  obtain ⟨ca4, cs4, Kcs4, rfl, hm0⟩ := hq
  subst M0
  show Go Z k 4 110596 ((ca4, ArL Z cs4) :: (a3, Obj Z "com/example/graupel/graupel/benchmark/CallTimeHistogram" [("com/example/graupel/graupel/benchmark/CallTimeHistogram", "counts", "[J", (.ref ca4)), ("com/example/graupel/graupel/benchmark/CallTimeHistogram", "total", "J", (.long (0 : Nat).toInt64))]) :: (ca2, ArL Z cs2) :: (a1, Obj Z "com/example/graupel/graupel/benchmark/CallTimeHistogram" [("com/example/graupel/graupel/benchmark/CallTimeHistogram", "counts", "[J", (.ref ca2)), ("com/example/graupel/graupel/benchmark/CallTimeHistogram", "total", "J", (.long (0 : Nat).toInt64))]) :: []) 58 #[.val (.long i0), .second, .val (.long i1), .second, .val (.int i2), .val (.long xa.toInt64), .second, .val (.long ya.toInt64), .second, .val (.int (0 : Int32)), .val (.int (0 : Int32)), .val (.ref a1), .unset, .unset, .unset, .unset, .unset, .unset, .unset, .unset, .unset, .unset] [(.ref a3)]
  refine s_astore H at_58 (L' := #[.val (.long i0), .second, .val (.long i1), .second, .val (.int i2), .val (.long xa.toInt64), .second, .val (.long ya.toInt64), .second, .val (.int (0 : Int32)), .val (.int (0 : Int32)), .val (.ref a1), .val (.ref a3), .unset, .unset, .unset, .unset, .unset, .unset, .unset, .unset, .unset]) rfl rfl (pc' := 60) rfl ?_
  refine s_new H (C := "com/example/graupel/graupel/benchmark/CallTimeHistogram") [("com/example/graupel/graupel/benchmark/CallTimeHistogram", "counts", "[J", .null), ("com/example/graupel/graupel/benchmark/CallTimeHistogram", "total", "J", (.long (0 : Int64)))] at_60 (mem (i := 1) rfl) (mem (i := 2) rfl) (mem (i := 3) rfl) (allC ⟨Or.inr (mem (i := 26) rfl), (.array .long), by decide, rfl⟩ (allC ⟨Or.inl (mem (i := 33) rfl), .long, by decide, rfl⟩ allN)) (by decide) (cn' := 5) (sn' := 110598) rfl rfl (by decide) (by decide) (pc' := 63) rfl (fun a5 => ?_)
  refine s_dup H at_63 rfl (pc' := 64) rfl ?_
  refine s_init H (met_hi H.tb a5) at_64 rfl (mem (i := 4) rfl) (mem (i := 5) rfl) (mem (i := 3) rfl) (mem (i := 6) rfl) (by decide) pd_1 rfl (rest := [(.ref a5)]) rfl rfl (by decide) (Nat.le_of_ble_eq_true rfl) (cn' := 6) (sn' := 165894) rfl rfl (by decide) (by decide) (pc' := 67) rfl (fun v0 M0 hq => ?_)
  obtain ⟨ca6, cs6, Kcs6, rfl, hm0⟩ := hq
  subst M0
  show Go Z k 6 165894 ((ca6, ArL Z cs6) :: (a5, Obj Z "com/example/graupel/graupel/benchmark/CallTimeHistogram" [("com/example/graupel/graupel/benchmark/CallTimeHistogram", "counts", "[J", (.ref ca6)), ("com/example/graupel/graupel/benchmark/CallTimeHistogram", "total", "J", (.long (0 : Nat).toInt64))]) :: (ca4, ArL Z cs4) :: (a3, Obj Z "com/example/graupel/graupel/benchmark/CallTimeHistogram" [("com/example/graupel/graupel/benchmark/CallTimeHistogram", "counts", "[J", (.ref ca4)), ("com/example/graupel/graupel/benchmark/CallTimeHistogram", "total", "J", (.long (0 : Nat).toInt64))]) :: (ca2, ArL Z cs2) :: (a1, Obj Z "com/example/graupel/graupel/benchmark/CallTimeHistogram" [("com/example/graupel/graupel/benchmark/CallTimeHistogram", "counts", "[J", (.ref ca2)), ("com/example/graupel/graupel/benchmark/CallTimeHistogram", "total", "J", (.long (0 : Nat).toInt64))]) :: []) 67 #[.val (.long i0), .second, .val (.long i1), .second, .val (.int i2), .val (.long xa.toInt64), .second, .val (.long ya.toInt64), .second, .val (.int (0 : Int32)), .val (.int (0 : Int32)), .val (.ref a1), .val (.ref a3), .unset, .unset, .unset, .unset, .unset, .unset, .unset, .unset, .unset] [(.ref a5)]
  refine s_astore H at_67 (L' := #[.val (.long i0), .second, .val (.long i1), .second, .val (.int i2), .val (.long xa.toInt64), .second, .val (.long ya.toInt64), .second, .val (.int (0 : Int32)), .val (.int (0 : Int32)), .val (.ref a1), .val (.ref a3), .val (.ref a5), .unset, .unset, .unset, .unset, .unset, .unset, .unset, .unset]) rfl rfl (pc' := 69) rfl ?_
  refine s_iload H at_69 rfl (pc' := 71) rfl ?_
  refine s_if H at_71 (py := 88) (pc' := 74) z_eq (by decide) rfl (fun c71 => ?_) (fun c71 => ?_)
  · refine s_iload H at_88 rfl (pc' := 90) rfl ?_
    refine s_if H at_90 (py := 107) (pc' := 93) z_eq (by decide) rfl (fun c90 => ?_) (fun c90 => ?_)
    · refine s_iload H at_107 rfl (pc' := 109) rfl ?_
      refine s_if H at_109 (py := 116) (pc' := 112) z_eq (by decide) rfl (fun c109 => ?_) (fun c109 => ?_)
      · refine s_lconst H at_116 (z := (0 : Int64)) (by decide) (pc' := 117) rfl ?_
        refine s_iload H at_117 rfl (pc' := 119) rfl ?_
        refine s_if H at_119 (py := 126) (pc' := 122) z_eq (by decide) rfl (fun c119 => ?_) (fun c119 => ?_)
        · refine s_lconst H at_126 (z := (0 : Int64)) (by decide) (pc' := 127) rfl ?_
          refine s_ladd H at_127 (pc' := 128) rfl ?_
          rw [show ((0 : Int64) + (0 : Int64)) = (0 : Int64) from by decide]
          refine s_lstore H at_128 (L' := fun z => #[.val (.long i0), .second, .val (.long i1), .second, .val (.int i2), .val (.long xa.toInt64), .second, .val (.long ya.toInt64), .second, .val (.int (0 : Int32)), .val (.int (0 : Int32)), .val (.ref a1), .val (.ref a3), .val (.ref a5), .val (.long z), .second, .unset, .unset, .unset, .unset, .unset, .unset]) (fun _ => rfl) (pc' := 130) rfl (fun z0 hz => ?_)
          subst z0
          refine s_aload H at_130 rfl rfl (pc' := 132) rfl ?_
          refine s_aload H at_132 rfl rfl (pc' := 134) rfl ?_
          refine Go.perm own_p2 ?_
          refine Go.perm own_p3 ?_
          refine s_virtual H (met_ha H.tb a1 ca2 a3 ca4 cs2 cs4 (fun _ => 0) (fun _ => 0) 0 0 Kcs2 Kcs4) at_134 (i := 1) rfl (mem (i := 27) rfl) (mem (i := 28) rfl) (mem (i := 30) rfl) (mem (i := 29) rfl) (mem (i := 3) rfl) (mem (i := 31) rfl) (by decide) pd_6 rfl (rest := []) rfl rfl (by decide) (Nat.le_of_ble_eq_true rfl) (cn' := 6) (sn' := 165894) rfl rfl (by decide) (by decide) (pc' := 137) rfl (fun v0 M0 hq => ?_)
          obtain ⟨cs7, Kcs7', rfl, hm0⟩ := hq
          subst M0
          show Go Z k 6 165894 ((ca2, ArL Z cs7) :: (a1, Obj Z "com/example/graupel/graupel/benchmark/CallTimeHistogram" [("com/example/graupel/graupel/benchmark/CallTimeHistogram", "counts", "[J", (.ref ca2)), ("com/example/graupel/graupel/benchmark/CallTimeHistogram", "total", "J", (.long (0 : Nat).toInt64))]) :: (ca4, ArL Z cs4) :: (a3, Obj Z "com/example/graupel/graupel/benchmark/CallTimeHistogram" [("com/example/graupel/graupel/benchmark/CallTimeHistogram", "counts", "[J", (.ref ca4)), ("com/example/graupel/graupel/benchmark/CallTimeHistogram", "total", "J", (.long (0 : Nat).toInt64))]) :: (ca6, ArL Z cs6) :: (a5, Obj Z "com/example/graupel/graupel/benchmark/CallTimeHistogram" [("com/example/graupel/graupel/benchmark/CallTimeHistogram", "counts", "[J", (.ref ca6)), ("com/example/graupel/graupel/benchmark/CallTimeHistogram", "total", "J", (.long (0 : Nat).toInt64))]) :: []) 137 #[.val (.long i0), .second, .val (.long i1), .second, .val (.int i2), .val (.long xa.toInt64), .second, .val (.long ya.toInt64), .second, .val (.int (0 : Int32)), .val (.int (0 : Int32)), .val (.ref a1), .val (.ref a3), .val (.ref a5), .val (.long (0 : Int64)), .second, .unset, .unset, .unset, .unset, .unset, .unset] []
          have Kcs7 : HI cs7 (fun _ => 0) := Kcs7'.congr (fun i => by simp)
          refine s_aload H at_137 rfl rfl (pc' := 139) rfl ?_
          refine s_virtual H (met_hc H.tb a1 ca2 cs7 0) at_139 (i := 1) rfl (mem (i := 34) rfl) (mem (i := 35) rfl) (mem (i := 37) rfl) (mem (i := 36) rfl) (mem (i := 3) rfl) (mem (i := 38) rfl) (by decide) pd_7 rfl (rest := []) rfl rfl (by decide) (Nat.le_of_ble_eq_true rfl) (cn' := 6) (sn' := 165894) rfl rfl (by decide) (by decide) (pc' := 142) rfl (fun v0 M0 hq => ?_)
          obtain ⟨rfl, hm0⟩ := hq
          subst M0
          show Go Z k 6 165894 ((ca2, ArL Z cs7) :: (a1, Obj Z "com/example/graupel/graupel/benchmark/CallTimeHistogram" [("com/example/graupel/graupel/benchmark/CallTimeHistogram", "counts", "[J", (.ref ca2)), ("com/example/graupel/graupel/benchmark/CallTimeHistogram", "total", "J", (.long (0 : Nat).toInt64))]) :: (ca4, ArL Z cs4) :: (a3, Obj Z "com/example/graupel/graupel/benchmark/CallTimeHistogram" [("com/example/graupel/graupel/benchmark/CallTimeHistogram", "counts", "[J", (.ref ca4)), ("com/example/graupel/graupel/benchmark/CallTimeHistogram", "total", "J", (.long (0 : Nat).toInt64))]) :: (ca6, ArL Z cs6) :: (a5, Obj Z "com/example/graupel/graupel/benchmark/CallTimeHistogram" [("com/example/graupel/graupel/benchmark/CallTimeHistogram", "counts", "[J", (.ref ca6)), ("com/example/graupel/graupel/benchmark/CallTimeHistogram", "total", "J", (.long (0 : Nat).toInt64))]) :: []) 142 #[.val (.long i0), .second, .val (.long i1), .second, .val (.int i2), .val (.long xa.toInt64), .second, .val (.long ya.toInt64), .second, .val (.int (0 : Int32)), .val (.int (0 : Int32)), .val (.ref a1), .val (.ref a3), .val (.ref a5), .val (.long (0 : Int64)), .second, .unset, .unset, .unset, .unset, .unset, .unset] [(.long (0 : Int64))]
          refine s_lload H at_142 rfl (pc' := 144) rfl ?_
          refine s_lcmp H at_144 (pc' := 145) rfl ?_
          refine s_if H at_145 (py := 150) (pc' := 148) l_eq (by decide) rfl (fun c145 => ?_) (fun c145 => ?_)
          · refine s_aload H at_150 rfl rfl (pc' := 152) rfl ?_
            refine Go.perm own_p2 ?_
            refine s_virtual H (met_hc H.tb a3 ca4 cs4 0) at_152 (i := 1) rfl (mem (i := 34) rfl) (mem (i := 35) rfl) (mem (i := 37) rfl) (mem (i := 36) rfl) (mem (i := 3) rfl) (mem (i := 38) rfl) (by decide) pd_7 rfl (rest := []) rfl rfl (by decide) (Nat.le_of_ble_eq_true rfl) (cn' := 6) (sn' := 165894) rfl rfl (by decide) (by decide) (pc' := 155) rfl (fun v0 M0 hq => ?_)
            obtain ⟨rfl, hm0⟩ := hq
            subst M0
            show Go Z k 6 165894 ((ca4, ArL Z cs4) :: (a3, Obj Z "com/example/graupel/graupel/benchmark/CallTimeHistogram" [("com/example/graupel/graupel/benchmark/CallTimeHistogram", "counts", "[J", (.ref ca4)), ("com/example/graupel/graupel/benchmark/CallTimeHistogram", "total", "J", (.long (0 : Nat).toInt64))]) :: (ca2, ArL Z cs7) :: (a1, Obj Z "com/example/graupel/graupel/benchmark/CallTimeHistogram" [("com/example/graupel/graupel/benchmark/CallTimeHistogram", "counts", "[J", (.ref ca2)), ("com/example/graupel/graupel/benchmark/CallTimeHistogram", "total", "J", (.long (0 : Nat).toInt64))]) :: (ca6, ArL Z cs6) :: (a5, Obj Z "com/example/graupel/graupel/benchmark/CallTimeHistogram" [("com/example/graupel/graupel/benchmark/CallTimeHistogram", "counts", "[J", (.ref ca6)), ("com/example/graupel/graupel/benchmark/CallTimeHistogram", "total", "J", (.long (0 : Nat).toInt64))]) :: []) 155 #[.val (.long i0), .second, .val (.long i1), .second, .val (.int i2), .val (.long xa.toInt64), .second, .val (.long ya.toInt64), .second, .val (.int (0 : Int32)), .val (.int (0 : Int32)), .val (.ref a1), .val (.ref a3), .val (.ref a5), .val (.long (0 : Int64)), .second, .unset, .unset, .unset, .unset, .unset, .unset] [(.long (0 : Int64))]
            refine s_iload H at_155 rfl (pc' := 157) rfl ?_
            refine s_if H at_157 (py := 164) (pc' := 160) z_eq (by decide) rfl (fun c157 => ?_) (fun c157 => ?_)
            · refine s_lconst H at_164 (z := (0 : Int64)) (by decide) (pc' := 165) rfl ?_
              refine s_lcmp H at_165 (pc' := 166) rfl ?_
              refine s_if H at_166 (py := 171) (pc' := 169) l_eq (by decide) rfl (fun c166 => ?_) (fun c166 => ?_)
              · refine s_lload H at_171 rfl (pc' := 173) rfl ?_
                refine s_lconst H at_173 (z := (0 : Int64)) (by decide) (pc' := 174) rfl ?_
                refine s_lcmp H at_174 (pc' := 175) rfl ?_
                refine s_if H at_175 (py := 180) (pc' := 178) l_ne (by decide) rfl (fun c175 => ?_) (fun c175 => ?_)
                · exact absurd c175 (by decide)
                · refine s_iconst H at_178 (z := (1 : Int32)) (by decide) (pc' := 179) rfl ?_
                  exact s_iret H at_179 rfl (by simp) (by decide) (by decide) (rfl)
              · exact absurd c166 (by decide)
            · exact absurd c157 (by decide)
          · exact absurd c145 (by decide)
        · exact absurd c119 (by decide)
      · exact absurd c109 (by decide)
    · exact absurd c90 (by decide)
  · exact absurd c71 (by decide)
set_option maxRecDepth 65536 in
set_option maxHeartbeats 40000000 in
theorem s42_01 {Z : State} {k : Cx} {i0 i1 : Int64} {i2 : Int32} (xa ya : Nat) (H : Ok Z k room_1 (LQ) x code maxLocals ret) (hx : xa < 9223372036854775808) (hy : ya < 9223372036854775808) : Go Z k 0 0 ([] : Hp) 42 #[.val (.long i0), .second, .val (.long i1), .second, .val (.int i2), .val (.long xa.toInt64), .second, .val (.long ya.toInt64), .second, .val (.int (0 : Int32)), .val (.int (1 : Int32)), .unset, .unset, .unset, .unset, .unset, .unset, .unset, .unset, .unset, .unset, .unset] [] := by
  refine s_new H (C := "com/example/graupel/graupel/benchmark/CallTimeHistogram") [("com/example/graupel/graupel/benchmark/CallTimeHistogram", "counts", "[J", .null), ("com/example/graupel/graupel/benchmark/CallTimeHistogram", "total", "J", (.long (0 : Int64)))] at_42 (mem (i := 1) rfl) (mem (i := 2) rfl) (mem (i := 3) rfl) (allC ⟨Or.inr (mem (i := 26) rfl), (.array .long), by decide, rfl⟩ (allC ⟨Or.inl (mem (i := 33) rfl), .long, by decide, rfl⟩ allN)) (by decide) (cn' := 1) (sn' := 2) rfl rfl (by decide) (by decide) (pc' := 45) rfl (fun a1 => ?_)
  refine s_dup H at_45 rfl (pc' := 46) rfl ?_
  refine s_init H (met_hi H.tb a1) at_46 rfl (mem (i := 4) rfl) (mem (i := 5) rfl) (mem (i := 3) rfl) (mem (i := 6) rfl) (by decide) pd_1 rfl (rest := [(.ref a1)]) rfl rfl (by decide) (Nat.le_of_ble_eq_true rfl) (cn' := 2) (sn' := 55298) rfl rfl (by decide) (by decide) (pc' := 49) rfl (fun v0 M0 hq => ?_)
  obtain ⟨ca2, cs2, Kcs2, rfl, hm0⟩ := hq
  subst M0
  show Go Z k 2 55298 ((ca2, ArL Z cs2) :: (a1, Obj Z "com/example/graupel/graupel/benchmark/CallTimeHistogram" [("com/example/graupel/graupel/benchmark/CallTimeHistogram", "counts", "[J", (.ref ca2)), ("com/example/graupel/graupel/benchmark/CallTimeHistogram", "total", "J", (.long (0 : Nat).toInt64))]) :: []) 49 #[.val (.long i0), .second, .val (.long i1), .second, .val (.int i2), .val (.long xa.toInt64), .second, .val (.long ya.toInt64), .second, .val (.int (0 : Int32)), .val (.int (1 : Int32)), .unset, .unset, .unset, .unset, .unset, .unset, .unset, .unset, .unset, .unset, .unset] [(.ref a1)]
  refine s_astore H at_49 (L' := #[.val (.long i0), .second, .val (.long i1), .second, .val (.int i2), .val (.long xa.toInt64), .second, .val (.long ya.toInt64), .second, .val (.int (0 : Int32)), .val (.int (1 : Int32)), .val (.ref a1), .unset, .unset, .unset, .unset, .unset, .unset, .unset, .unset, .unset, .unset]) rfl rfl (pc' := 51) rfl ?_
  refine s_new H (C := "com/example/graupel/graupel/benchmark/CallTimeHistogram") [("com/example/graupel/graupel/benchmark/CallTimeHistogram", "counts", "[J", .null), ("com/example/graupel/graupel/benchmark/CallTimeHistogram", "total", "J", (.long (0 : Int64)))] at_51 (mem (i := 1) rfl) (mem (i := 2) rfl) (mem (i := 3) rfl) (allC ⟨Or.inr (mem (i := 26) rfl), (.array .long), by decide, rfl⟩ (allC ⟨Or.inl (mem (i := 33) rfl), .long, by decide, rfl⟩ allN)) (by decide) (cn' := 3) (sn' := 55300) rfl rfl (by decide) (by decide) (pc' := 54) rfl (fun a3 => ?_)
  refine s_dup H at_54 rfl (pc' := 55) rfl ?_
  refine s_init H (met_hi H.tb a3) at_55 rfl (mem (i := 4) rfl) (mem (i := 5) rfl) (mem (i := 3) rfl) (mem (i := 6) rfl) (by decide) pd_1 rfl (rest := [(.ref a3)]) rfl rfl (by decide) (Nat.le_of_ble_eq_true rfl) (cn' := 4) (sn' := 110596) rfl rfl (by decide) (by decide) (pc' := 58) rfl (fun v0 M0 hq => ?_)
  obtain ⟨ca4, cs4, Kcs4, rfl, hm0⟩ := hq
  subst M0
  show Go Z k 4 110596 ((ca4, ArL Z cs4) :: (a3, Obj Z "com/example/graupel/graupel/benchmark/CallTimeHistogram" [("com/example/graupel/graupel/benchmark/CallTimeHistogram", "counts", "[J", (.ref ca4)), ("com/example/graupel/graupel/benchmark/CallTimeHistogram", "total", "J", (.long (0 : Nat).toInt64))]) :: (ca2, ArL Z cs2) :: (a1, Obj Z "com/example/graupel/graupel/benchmark/CallTimeHistogram" [("com/example/graupel/graupel/benchmark/CallTimeHistogram", "counts", "[J", (.ref ca2)), ("com/example/graupel/graupel/benchmark/CallTimeHistogram", "total", "J", (.long (0 : Nat).toInt64))]) :: []) 58 #[.val (.long i0), .second, .val (.long i1), .second, .val (.int i2), .val (.long xa.toInt64), .second, .val (.long ya.toInt64), .second, .val (.int (0 : Int32)), .val (.int (1 : Int32)), .val (.ref a1), .unset, .unset, .unset, .unset, .unset, .unset, .unset, .unset, .unset, .unset] [(.ref a3)]
  refine s_astore H at_58 (L' := #[.val (.long i0), .second, .val (.long i1), .second, .val (.int i2), .val (.long xa.toInt64), .second, .val (.long ya.toInt64), .second, .val (.int (0 : Int32)), .val (.int (1 : Int32)), .val (.ref a1), .val (.ref a3), .unset, .unset, .unset, .unset, .unset, .unset, .unset, .unset, .unset]) rfl rfl (pc' := 60) rfl ?_
  refine s_new H (C := "com/example/graupel/graupel/benchmark/CallTimeHistogram") [("com/example/graupel/graupel/benchmark/CallTimeHistogram", "counts", "[J", .null), ("com/example/graupel/graupel/benchmark/CallTimeHistogram", "total", "J", (.long (0 : Int64)))] at_60 (mem (i := 1) rfl) (mem (i := 2) rfl) (mem (i := 3) rfl) (allC ⟨Or.inr (mem (i := 26) rfl), (.array .long), by decide, rfl⟩ (allC ⟨Or.inl (mem (i := 33) rfl), .long, by decide, rfl⟩ allN)) (by decide) (cn' := 5) (sn' := 110598) rfl rfl (by decide) (by decide) (pc' := 63) rfl (fun a5 => ?_)
  refine s_dup H at_63 rfl (pc' := 64) rfl ?_
  refine s_init H (met_hi H.tb a5) at_64 rfl (mem (i := 4) rfl) (mem (i := 5) rfl) (mem (i := 3) rfl) (mem (i := 6) rfl) (by decide) pd_1 rfl (rest := [(.ref a5)]) rfl rfl (by decide) (Nat.le_of_ble_eq_true rfl) (cn' := 6) (sn' := 165894) rfl rfl (by decide) (by decide) (pc' := 67) rfl (fun v0 M0 hq => ?_)
  obtain ⟨ca6, cs6, Kcs6, rfl, hm0⟩ := hq
  subst M0
  show Go Z k 6 165894 ((ca6, ArL Z cs6) :: (a5, Obj Z "com/example/graupel/graupel/benchmark/CallTimeHistogram" [("com/example/graupel/graupel/benchmark/CallTimeHistogram", "counts", "[J", (.ref ca6)), ("com/example/graupel/graupel/benchmark/CallTimeHistogram", "total", "J", (.long (0 : Nat).toInt64))]) :: (ca4, ArL Z cs4) :: (a3, Obj Z "com/example/graupel/graupel/benchmark/CallTimeHistogram" [("com/example/graupel/graupel/benchmark/CallTimeHistogram", "counts", "[J", (.ref ca4)), ("com/example/graupel/graupel/benchmark/CallTimeHistogram", "total", "J", (.long (0 : Nat).toInt64))]) :: (ca2, ArL Z cs2) :: (a1, Obj Z "com/example/graupel/graupel/benchmark/CallTimeHistogram" [("com/example/graupel/graupel/benchmark/CallTimeHistogram", "counts", "[J", (.ref ca2)), ("com/example/graupel/graupel/benchmark/CallTimeHistogram", "total", "J", (.long (0 : Nat).toInt64))]) :: []) 67 #[.val (.long i0), .second, .val (.long i1), .second, .val (.int i2), .val (.long xa.toInt64), .second, .val (.long ya.toInt64), .second, .val (.int (0 : Int32)), .val (.int (1 : Int32)), .val (.ref a1), .val (.ref a3), .unset, .unset, .unset, .unset, .unset, .unset, .unset, .unset, .unset] [(.ref a5)]
  refine s_astore H at_67 (L' := #[.val (.long i0), .second, .val (.long i1), .second, .val (.int i2), .val (.long xa.toInt64), .second, .val (.long ya.toInt64), .second, .val (.int (0 : Int32)), .val (.int (1 : Int32)), .val (.ref a1), .val (.ref a3), .val (.ref a5), .unset, .unset, .unset, .unset, .unset, .unset, .unset, .unset]) rfl rfl (pc' := 69) rfl ?_
  refine s_iload H at_69 rfl (pc' := 71) rfl ?_
  refine s_if H at_71 (py := 88) (pc' := 74) z_eq (by decide) rfl (fun c71 => ?_) (fun c71 => ?_)
  · refine s_iload H at_88 rfl (pc' := 90) rfl ?_
    refine s_if H at_90 (py := 107) (pc' := 93) z_eq (by decide) rfl (fun c90 => ?_) (fun c90 => ?_)
    · exact absurd c90 (by decide)
    · refine s_aload H at_93 rfl rfl (pc' := 95) rfl ?_
      refine s_lload H at_95 rfl (pc' := 97) rfl ?_
      refine Go.perm own_p2 ?_
      refine s_virtual H (met_hr H.tb a3 ca4 cs4 (fun _ => 0) 0 ya Kcs4 hy) at_97 (i := 1) rfl (mem (i := 39) rfl) (mem (i := 40) rfl) (mem (i := 42) rfl) (mem (i := 41) rfl) (mem (i := 3) rfl) (mem (i := 43) rfl) (by decide) pd_8 rfl (rest := []) rfl rfl (by decide) (Nat.le_of_ble_eq_true rfl) (cn' := 6) (sn' := 165894) rfl rfl (by decide) (by decide) (pc' := 100) rfl (fun v0 M0 hq => ?_)
      obtain ⟨cs7, Kcs7', rfl, hm0⟩ := hq
      subst M0
      show Go Z k 6 165894 ((ca4, ArL Z cs7) :: (a3, Obj Z "com/example/graupel/graupel/benchmark/CallTimeHistogram" [("com/example/graupel/graupel/benchmark/CallTimeHistogram", "counts", "[J", (.ref ca4)), ("com/example/graupel/graupel/benchmark/CallTimeHistogram", "total", "J", (.long (1 : Nat).toInt64))]) :: (ca6, ArL Z cs6) :: (a5, Obj Z "com/example/graupel/graupel/benchmark/CallTimeHistogram" [("com/example/graupel/graupel/benchmark/CallTimeHistogram", "counts", "[J", (.ref ca6)), ("com/example/graupel/graupel/benchmark/CallTimeHistogram", "total", "J", (.long (0 : Nat).toInt64))]) :: (ca2, ArL Z cs2) :: (a1, Obj Z "com/example/graupel/graupel/benchmark/CallTimeHistogram" [("com/example/graupel/graupel/benchmark/CallTimeHistogram", "counts", "[J", (.ref ca2)), ("com/example/graupel/graupel/benchmark/CallTimeHistogram", "total", "J", (.long (0 : Nat).toInt64))]) :: []) 100 #[.val (.long i0), .second, .val (.long i1), .second, .val (.int i2), .val (.long xa.toInt64), .second, .val (.long ya.toInt64), .second, .val (.int (0 : Int32)), .val (.int (1 : Int32)), .val (.ref a1), .val (.ref a3), .val (.ref a5), .unset, .unset, .unset, .unset, .unset, .unset, .unset, .unset] []
      have Kcs7 : HI cs7 (c1 (bk ya)) := Kcs7'
      refine s_aload H at_100 rfl rfl (pc' := 102) rfl ?_
      refine s_lload H at_102 rfl (pc' := 104) rfl ?_
      refine Go.perm own_p2 ?_
      refine s_virtual H (met_hr H.tb a5 ca6 cs6 (fun _ => 0) 0 ya Kcs6 hy) at_104 (i := 1) rfl (mem (i := 39) rfl) (mem (i := 40) rfl) (mem (i := 42) rfl) (mem (i := 41) rfl) (mem (i := 3) rfl) (mem (i := 43) rfl) (by decide) pd_8 rfl (rest := []) rfl rfl (by decide) (Nat.le_of_ble_eq_true rfl) (cn' := 6) (sn' := 165894) rfl rfl (by decide) (by decide) (pc' := 107) rfl (fun v0 M0 hq => ?_)
      obtain ⟨cs8, Kcs8', rfl, hm0⟩ := hq
      subst M0
      show Go Z k 6 165894 ((ca6, ArL Z cs8) :: (a5, Obj Z "com/example/graupel/graupel/benchmark/CallTimeHistogram" [("com/example/graupel/graupel/benchmark/CallTimeHistogram", "counts", "[J", (.ref ca6)), ("com/example/graupel/graupel/benchmark/CallTimeHistogram", "total", "J", (.long (1 : Nat).toInt64))]) :: (ca4, ArL Z cs7) :: (a3, Obj Z "com/example/graupel/graupel/benchmark/CallTimeHistogram" [("com/example/graupel/graupel/benchmark/CallTimeHistogram", "counts", "[J", (.ref ca4)), ("com/example/graupel/graupel/benchmark/CallTimeHistogram", "total", "J", (.long (1 : Nat).toInt64))]) :: (ca2, ArL Z cs2) :: (a1, Obj Z "com/example/graupel/graupel/benchmark/CallTimeHistogram" [("com/example/graupel/graupel/benchmark/CallTimeHistogram", "counts", "[J", (.ref ca2)), ("com/example/graupel/graupel/benchmark/CallTimeHistogram", "total", "J", (.long (0 : Nat).toInt64))]) :: []) 107 #[.val (.long i0), .second, .val (.long i1), .second, .val (.int i2), .val (.long xa.toInt64), .second, .val (.long ya.toInt64), .second, .val (.int (0 : Int32)), .val (.int (1 : Int32)), .val (.ref a1), .val (.ref a3), .val (.ref a5), .unset, .unset, .unset, .unset, .unset, .unset, .unset, .unset] []
      have Kcs8 : HI cs8 (c1 (bk ya)) := Kcs8'
      refine s_iload H at_107 rfl (pc' := 109) rfl ?_
      refine s_if H at_109 (py := 116) (pc' := 112) z_eq (by decide) rfl (fun c109 => ?_) (fun c109 => ?_)
      · refine s_lconst H at_116 (z := (0 : Int64)) (by decide) (pc' := 117) rfl ?_
        refine s_iload H at_117 rfl (pc' := 119) rfl ?_
        refine s_if H at_119 (py := 126) (pc' := 122) z_eq (by decide) rfl (fun c119 => ?_) (fun c119 => ?_)
        · exact absurd c119 (by decide)
        · refine s_lconst H at_122 (z := (1 : Int64)) (by decide) (pc' := 123) rfl ?_
          refine s_goto H at_123 (pc' := 127) (by decide) ?_
          refine s_ladd H at_127 (pc' := 128) rfl ?_
          rw [show ((0 : Int64) + (1 : Int64)) = (1 : Int64) from by decide]
          refine s_lstore H at_128 (L' := fun z => #[.val (.long i0), .second, .val (.long i1), .second, .val (.int i2), .val (.long xa.toInt64), .second, .val (.long ya.toInt64), .second, .val (.int (0 : Int32)), .val (.int (1 : Int32)), .val (.ref a1), .val (.ref a3), .val (.ref a5), .val (.long z), .second, .unset, .unset, .unset, .unset, .unset, .unset]) (fun _ => rfl) (pc' := 130) rfl (fun z0 hz => ?_)
          subst z0
          refine s_aload H at_130 rfl rfl (pc' := 132) rfl ?_
          refine s_aload H at_132 rfl rfl (pc' := 134) rfl ?_
          refine Go.perm own_p2 ?_
          refine Go.perm own_p3 ?_
          refine s_virtual H (met_ha H.tb a1 ca2 a3 ca4 cs2 cs7 (fun _ => 0) (c1 (bk ya)) 0 1 Kcs2 Kcs7) at_134 (i := 1) rfl (mem (i := 27) rfl) (mem (i := 28) rfl) (mem (i := 30) rfl) (mem (i := 29) rfl) (mem (i := 3) rfl) (mem (i := 31) rfl) (by decide) pd_6 rfl (rest := []) rfl rfl (by decide) (Nat.le_of_ble_eq_true rfl) (cn' := 6) (sn' := 165894) rfl rfl (by decide) (by decide) (pc' := 137) rfl (fun v0 M0 hq => ?_)
          obtain ⟨cs9, Kcs9', rfl, hm0⟩ := hq
          subst M0
          show Go Z k 6 165894 ((ca2, ArL Z cs9) :: (a1, Obj Z "com/example/graupel/graupel/benchmark/CallTimeHistogram" [("com/example/graupel/graupel/benchmark/CallTimeHistogram", "counts", "[J", (.ref ca2)), ("com/example/graupel/graupel/benchmark/CallTimeHistogram", "total", "J", (.long (1 : Nat).toInt64))]) :: (ca4, ArL Z cs7) :: (a3, Obj Z "com/example/graupel/graupel/benchmark/CallTimeHistogram" [("com/example/graupel/graupel/benchmark/CallTimeHistogram", "counts", "[J", (.ref ca4)), ("com/example/graupel/graupel/benchmark/CallTimeHistogram", "total", "J", (.long (1 : Nat).toInt64))]) :: (ca6, ArL Z cs8) :: (a5, Obj Z "com/example/graupel/graupel/benchmark/CallTimeHistogram" [("com/example/graupel/graupel/benchmark/CallTimeHistogram", "counts", "[J", (.ref ca6)), ("com/example/graupel/graupel/benchmark/CallTimeHistogram", "total", "J", (.long (1 : Nat).toInt64))]) :: []) 137 #[.val (.long i0), .second, .val (.long i1), .second, .val (.int i2), .val (.long xa.toInt64), .second, .val (.long ya.toInt64), .second, .val (.int (0 : Int32)), .val (.int (1 : Int32)), .val (.ref a1), .val (.ref a3), .val (.ref a5), .val (.long (1 : Int64)), .second, .unset, .unset, .unset, .unset, .unset, .unset] []
          have Kcs9 : HI cs9 (c1 (bk ya)) := Kcs9'.congr (fun i => by simp)
          refine s_aload H at_137 rfl rfl (pc' := 139) rfl ?_
          refine s_virtual H (met_hc H.tb a1 ca2 cs9 1) at_139 (i := 1) rfl (mem (i := 34) rfl) (mem (i := 35) rfl) (mem (i := 37) rfl) (mem (i := 36) rfl) (mem (i := 3) rfl) (mem (i := 38) rfl) (by decide) pd_7 rfl (rest := []) rfl rfl (by decide) (Nat.le_of_ble_eq_true rfl) (cn' := 6) (sn' := 165894) rfl rfl (by decide) (by decide) (pc' := 142) rfl (fun v0 M0 hq => ?_)
          obtain ⟨rfl, hm0⟩ := hq
          subst M0
          show Go Z k 6 165894 ((ca2, ArL Z cs9) :: (a1, Obj Z "com/example/graupel/graupel/benchmark/CallTimeHistogram" [("com/example/graupel/graupel/benchmark/CallTimeHistogram", "counts", "[J", (.ref ca2)), ("com/example/graupel/graupel/benchmark/CallTimeHistogram", "total", "J", (.long (1 : Nat).toInt64))]) :: (ca4, ArL Z cs7) :: (a3, Obj Z "com/example/graupel/graupel/benchmark/CallTimeHistogram" [("com/example/graupel/graupel/benchmark/CallTimeHistogram", "counts", "[J", (.ref ca4)), ("com/example/graupel/graupel/benchmark/CallTimeHistogram", "total", "J", (.long (1 : Nat).toInt64))]) :: (ca6, ArL Z cs8) :: (a5, Obj Z "com/example/graupel/graupel/benchmark/CallTimeHistogram" [("com/example/graupel/graupel/benchmark/CallTimeHistogram", "counts", "[J", (.ref ca6)), ("com/example/graupel/graupel/benchmark/CallTimeHistogram", "total", "J", (.long (1 : Nat).toInt64))]) :: []) 142 #[.val (.long i0), .second, .val (.long i1), .second, .val (.int i2), .val (.long xa.toInt64), .second, .val (.long ya.toInt64), .second, .val (.int (0 : Int32)), .val (.int (1 : Int32)), .val (.ref a1), .val (.ref a3), .val (.ref a5), .val (.long (1 : Int64)), .second, .unset, .unset, .unset, .unset, .unset, .unset] [(.long (1 : Int64))]
          refine s_lload H at_142 rfl (pc' := 144) rfl ?_
          refine s_lcmp H at_144 (pc' := 145) rfl ?_
          refine s_if H at_145 (py := 150) (pc' := 148) l_eq (by decide) rfl (fun c145 => ?_) (fun c145 => ?_)
          · refine s_aload H at_150 rfl rfl (pc' := 152) rfl ?_
            refine Go.perm own_p2 ?_
            refine s_virtual H (met_hc H.tb a3 ca4 cs7 1) at_152 (i := 1) rfl (mem (i := 34) rfl) (mem (i := 35) rfl) (mem (i := 37) rfl) (mem (i := 36) rfl) (mem (i := 3) rfl) (mem (i := 38) rfl) (by decide) pd_7 rfl (rest := []) rfl rfl (by decide) (Nat.le_of_ble_eq_true rfl) (cn' := 6) (sn' := 165894) rfl rfl (by decide) (by decide) (pc' := 155) rfl (fun v0 M0 hq => ?_)
            obtain ⟨rfl, hm0⟩ := hq
            subst M0
            show Go Z k 6 165894 ((ca4, ArL Z cs7) :: (a3, Obj Z "com/example/graupel/graupel/benchmark/CallTimeHistogram" [("com/example/graupel/graupel/benchmark/CallTimeHistogram", "counts", "[J", (.ref ca4)), ("com/example/graupel/graupel/benchmark/CallTimeHistogram", "total", "J", (.long (1 : Nat).toInt64))]) :: (ca2, ArL Z cs9) :: (a1, Obj Z "com/example/graupel/graupel/benchmark/CallTimeHistogram" [("com/example/graupel/graupel/benchmark/CallTimeHistogram", "counts", "[J", (.ref ca2)), ("com/example/graupel/graupel/benchmark/CallTimeHistogram", "total", "J", (.long (1 : Nat).toInt64))]) :: (ca6, ArL Z cs8) :: (a5, Obj Z "com/example/graupel/graupel/benchmark/CallTimeHistogram" [("com/example/graupel/graupel/benchmark/CallTimeHistogram", "counts", "[J", (.ref ca6)), ("com/example/graupel/graupel/benchmark/CallTimeHistogram", "total", "J", (.long (1 : Nat).toInt64))]) :: []) 155 #[.val (.long i0), .second, .val (.long i1), .second, .val (.int i2), .val (.long xa.toInt64), .second, .val (.long ya.toInt64), .second, .val (.int (0 : Int32)), .val (.int (1 : Int32)), .val (.ref a1), .val (.ref a3), .val (.ref a5), .val (.long (1 : Int64)), .second, .unset, .unset, .unset, .unset, .unset, .unset] [(.long (1 : Int64))]
            refine s_iload H at_155 rfl (pc' := 157) rfl ?_
            refine s_if H at_157 (py := 164) (pc' := 160) z_eq (by decide) rfl (fun c157 => ?_) (fun c157 => ?_)
            · exact absurd c157 (by decide)
            · refine s_lconst H at_160 (z := (1 : Int64)) (by decide) (pc' := 161) rfl ?_
              refine s_goto H at_161 (pc' := 165) (by decide) ?_
              refine s_lcmp H at_165 (pc' := 166) rfl ?_
              refine s_if H at_166 (py := 171) (pc' := 169) l_eq (by decide) rfl (fun c166 => ?_) (fun c166 => ?_)
              · refine s_lload H at_171 rfl (pc' := 173) rfl ?_
                refine s_lconst H at_173 (z := (0 : Int64)) (by decide) (pc' := 174) rfl ?_
                refine s_lcmp H at_174 (pc' := 175) rfl ?_
                refine s_if H at_175 (py := 180) (pc' := 178) l_ne (by decide) rfl (fun c175 => ?_) (fun c175 => ?_)
                · refine s_aload H at_180 rfl rfl (pc' := 182) rfl ?_
                  refine s_lconst H at_182 (z := (1 : Int64)) (by decide) (pc' := 183) rfl ?_
                  refine s_lload H at_183 rfl (pc' := 185) rfl ?_
                  refine Go.perm own_p3 ?_
                  refine s_virtual H (met_q11 H.tb a5 ca6 cs8 (c1 (bk ya)) (S1 (bk ya)) (bk ya) Kcs8 (S1_s _) (bk_lt hy) (fun i hi => by unfold S1 c1; rw [if_neg (by omega), if_neg (by omega)]; omega) (by unfold S1 c1; rw [if_pos rfl]; omega) (fun i _ => Nat.lt_of_le_of_lt (c1_b _ _) (by decide)) (by decide) (by unfold S1; rw [if_neg (by omega)])) at_185 (i := 1) rfl (mem (i := 44) rfl) (mem (i := 45) rfl) (mem (i := 47) rfl) (mem (i := 46) rfl) (mem (i := 3) rfl) (mem (i := 48) rfl) (by decide) pd_9 rfl (rest := []) rfl rfl (by decide) (Nat.le_of_ble_eq_true rfl) (cn' := 6) (sn' := 165894) rfl rfl (by decide) (by decide) (pc' := 188) rfl (fun v0 M0 hq => ?_)
                  obtain ⟨rfl, hm0⟩ := hq
                  subst M0
                  show Go Z k 6 165894 ((ca6, ArL Z cs8) :: (a5, Obj Z "com/example/graupel/graupel/benchmark/CallTimeHistogram" [("com/example/graupel/graupel/benchmark/CallTimeHistogram", "counts", "[J", (.ref ca6)), ("com/example/graupel/graupel/benchmark/CallTimeHistogram", "total", "J", (.long (1 : Nat).toInt64))]) :: (ca4, ArL Z cs7) :: (a3, Obj Z "com/example/graupel/graupel/benchmark/CallTimeHistogram" [("com/example/graupel/graupel/benchmark/CallTimeHistogram", "counts", "[J", (.ref ca4)), ("com/example/graupel/graupel/benchmark/CallTimeHistogram", "total", "J", (.long (1 : Nat).toInt64))]) :: (ca2, ArL Z cs9) :: (a1, Obj Z "com/example/graupel/graupel/benchmark/CallTimeHistogram" [("com/example/graupel/graupel/benchmark/CallTimeHistogram", "counts", "[J", (.ref ca2)), ("com/example/graupel/graupel/benchmark/CallTimeHistogram", "total", "J", (.long (1 : Nat).toInt64))]) :: []) 188 #[.val (.long i0), .second, .val (.long i1), .second, .val (.int i2), .val (.long xa.toInt64), .second, .val (.long ya.toInt64), .second, .val (.int (0 : Int32)), .val (.int (1 : Int32)), .val (.ref a1), .val (.ref a3), .val (.ref a5), .val (.long (1 : Int64)), .second, .unset, .unset, .unset, .unset, .unset, .unset] [(.long (hg (bk ya)).toInt64)]
                  refine s_lstore H at_188 (L' := fun z => #[.val (.long i0), .second, .val (.long i1), .second, .val (.int i2), .val (.long xa.toInt64), .second, .val (.long ya.toInt64), .second, .val (.int (0 : Int32)), .val (.int (1 : Int32)), .val (.ref a1), .val (.ref a3), .val (.ref a5), .val (.long (1 : Int64)), .second, .val (.long z), .second, .unset, .unset, .unset, .unset]) (fun _ => rfl) (pc' := 190) rfl (fun z0 hz => ?_)
                  subst z0
                  refine s_aload H at_190 rfl rfl (pc' := 192) rfl ?_
                  refine s_lload H at_192 rfl (pc' := 194) rfl ?_
                  refine s_lload H at_194 rfl (pc' := 196) rfl ?_
                  refine s_virtual H (met_q11 H.tb a5 ca6 cs8 (c1 (bk ya)) (S1 (bk ya)) (bk ya) Kcs8 (S1_s _) (bk_lt hy) (fun i hi => by unfold S1 c1; rw [if_neg (by omega), if_neg (by omega)]; omega) (by unfold S1 c1; rw [if_pos rfl]; omega) (fun i _ => Nat.lt_of_le_of_lt (c1_b _ _) (by decide)) (by decide) (by unfold S1; rw [if_neg (by omega)])) at_196 (i := 1) rfl (mem (i := 44) rfl) (mem (i := 45) rfl) (mem (i := 47) rfl) (mem (i := 46) rfl) (mem (i := 3) rfl) (mem (i := 48) rfl) (by decide) pd_9 rfl (rest := []) rfl rfl (by decide) (Nat.le_of_ble_eq_true rfl) (cn' := 6) (sn' := 165894) rfl rfl (by decide) (by decide) (pc' := 199) rfl (fun v0 M0 hq => ?_)
                  obtain ⟨rfl, hm0⟩ := hq
                  subst M0
                  show Go Z k 6 165894 ((ca6, ArL Z cs8) :: (a5, Obj Z "com/example/graupel/graupel/benchmark/CallTimeHistogram" [("com/example/graupel/graupel/benchmark/CallTimeHistogram", "counts", "[J", (.ref ca6)), ("com/example/graupel/graupel/benchmark/CallTimeHistogram", "total", "J", (.long (1 : Nat).toInt64))]) :: (ca4, ArL Z cs7) :: (a3, Obj Z "com/example/graupel/graupel/benchmark/CallTimeHistogram" [("com/example/graupel/graupel/benchmark/CallTimeHistogram", "counts", "[J", (.ref ca4)), ("com/example/graupel/graupel/benchmark/CallTimeHistogram", "total", "J", (.long (1 : Nat).toInt64))]) :: (ca2, ArL Z cs9) :: (a1, Obj Z "com/example/graupel/graupel/benchmark/CallTimeHistogram" [("com/example/graupel/graupel/benchmark/CallTimeHistogram", "counts", "[J", (.ref ca2)), ("com/example/graupel/graupel/benchmark/CallTimeHistogram", "total", "J", (.long (1 : Nat).toInt64))]) :: []) 199 #[.val (.long i0), .second, .val (.long i1), .second, .val (.int i2), .val (.long xa.toInt64), .second, .val (.long ya.toInt64), .second, .val (.int (0 : Int32)), .val (.int (1 : Int32)), .val (.ref a1), .val (.ref a3), .val (.ref a5), .val (.long (1 : Int64)), .second, .val (.long (hg (bk ya)).toInt64), .second, .unset, .unset, .unset, .unset] [(.long (hg (bk ya)).toInt64)]
                  refine s_lstore H at_199 (L' := fun z => #[.val (.long i0), .second, .val (.long i1), .second, .val (.int i2), .val (.long xa.toInt64), .second, .val (.long ya.toInt64), .second, .val (.int (0 : Int32)), .val (.int (1 : Int32)), .val (.ref a1), .val (.ref a3), .val (.ref a5), .val (.long (1 : Int64)), .second, .val (.long (hg (bk ya)).toInt64), .second, .val (.long z), .second, .unset, .unset]) (fun _ => rfl) (pc' := 201) rfl (fun z0 hz => ?_)
                  subst z0
                  refine s_aload H at_201 rfl rfl (pc' := 203) rfl ?_
                  refine s_lconst H at_203 (z := (1 : Int64)) (by decide) (pc' := 204) rfl ?_
                  refine s_lload H at_204 rfl (pc' := 206) rfl ?_
                  refine Go.perm own_p3 ?_
                  refine s_virtual H (met_q11 H.tb a1 ca2 cs9 (c1 (bk ya)) (S1 (bk ya)) (bk ya) Kcs9 (S1_s _) (bk_lt hy) (fun i hi => by unfold S1 c1; rw [if_neg (by omega), if_neg (by omega)]; omega) (by unfold S1 c1; rw [if_pos rfl]; omega) (fun i _ => Nat.lt_of_le_of_lt (c1_b _ _) (by decide)) (by decide) (by unfold S1; rw [if_neg (by omega)])) at_206 (i := 1) rfl (mem (i := 44) rfl) (mem (i := 45) rfl) (mem (i := 47) rfl) (mem (i := 46) rfl) (mem (i := 3) rfl) (mem (i := 48) rfl) (by decide) pd_9 rfl (rest := []) rfl rfl (by decide) (Nat.le_of_ble_eq_true rfl) (cn' := 6) (sn' := 165894) rfl rfl (by decide) (by decide) (pc' := 209) rfl (fun v0 M0 hq => ?_)
                  obtain ⟨rfl, hm0⟩ := hq
                  subst M0
                  show Go Z k 6 165894 ((ca2, ArL Z cs9) :: (a1, Obj Z "com/example/graupel/graupel/benchmark/CallTimeHistogram" [("com/example/graupel/graupel/benchmark/CallTimeHistogram", "counts", "[J", (.ref ca2)), ("com/example/graupel/graupel/benchmark/CallTimeHistogram", "total", "J", (.long (1 : Nat).toInt64))]) :: (ca6, ArL Z cs8) :: (a5, Obj Z "com/example/graupel/graupel/benchmark/CallTimeHistogram" [("com/example/graupel/graupel/benchmark/CallTimeHistogram", "counts", "[J", (.ref ca6)), ("com/example/graupel/graupel/benchmark/CallTimeHistogram", "total", "J", (.long (1 : Nat).toInt64))]) :: (ca4, ArL Z cs7) :: (a3, Obj Z "com/example/graupel/graupel/benchmark/CallTimeHistogram" [("com/example/graupel/graupel/benchmark/CallTimeHistogram", "counts", "[J", (.ref ca4)), ("com/example/graupel/graupel/benchmark/CallTimeHistogram", "total", "J", (.long (1 : Nat).toInt64))]) :: []) 209 #[.val (.long i0), .second, .val (.long i1), .second, .val (.int i2), .val (.long xa.toInt64), .second, .val (.long ya.toInt64), .second, .val (.int (0 : Int32)), .val (.int (1 : Int32)), .val (.ref a1), .val (.ref a3), .val (.ref a5), .val (.long (1 : Int64)), .second, .val (.long (hg (bk ya)).toInt64), .second, .val (.long (hg (bk ya)).toInt64), .second, .unset, .unset] [(.long (hg (bk ya)).toInt64)]
                  refine s_lload H at_209 rfl (pc' := 211) rfl ?_
                  refine s_lcmp H at_211 (pc' := 212) rfl ?_
                  refine s_if H at_212 (py := 217) (pc' := 215) l_eq (by decide) rfl (fun c212 => ?_) (fun c212 => ?_)
                  · refine s_aload H at_217 rfl rfl (pc' := 219) rfl ?_
                    refine s_lload H at_219 rfl (pc' := 221) rfl ?_
                    refine s_lload H at_221 rfl (pc' := 223) rfl ?_
                    refine s_virtual H (met_q11 H.tb a1 ca2 cs9 (c1 (bk ya)) (S1 (bk ya)) (bk ya) Kcs9 (S1_s _) (bk_lt hy) (fun i hi => by unfold S1 c1; rw [if_neg (by omega), if_neg (by omega)]; omega) (by unfold S1 c1; rw [if_pos rfl]; omega) (fun i _ => Nat.lt_of_le_of_lt (c1_b _ _) (by decide)) (by decide) (by unfold S1; rw [if_neg (by omega)])) at_223 (i := 1) rfl (mem (i := 44) rfl) (mem (i := 45) rfl) (mem (i := 47) rfl) (mem (i := 46) rfl) (mem (i := 3) rfl) (mem (i := 48) rfl) (by decide) pd_9 rfl (rest := []) rfl rfl (by decide) (Nat.le_of_ble_eq_true rfl) (cn' := 6) (sn' := 165894) rfl rfl (by decide) (by decide) (pc' := 226) rfl (fun v0 M0 hq => ?_)
                    obtain ⟨rfl, hm0⟩ := hq
                    subst M0
                    show Go Z k 6 165894 ((ca2, ArL Z cs9) :: (a1, Obj Z "com/example/graupel/graupel/benchmark/CallTimeHistogram" [("com/example/graupel/graupel/benchmark/CallTimeHistogram", "counts", "[J", (.ref ca2)), ("com/example/graupel/graupel/benchmark/CallTimeHistogram", "total", "J", (.long (1 : Nat).toInt64))]) :: (ca6, ArL Z cs8) :: (a5, Obj Z "com/example/graupel/graupel/benchmark/CallTimeHistogram" [("com/example/graupel/graupel/benchmark/CallTimeHistogram", "counts", "[J", (.ref ca6)), ("com/example/graupel/graupel/benchmark/CallTimeHistogram", "total", "J", (.long (1 : Nat).toInt64))]) :: (ca4, ArL Z cs7) :: (a3, Obj Z "com/example/graupel/graupel/benchmark/CallTimeHistogram" [("com/example/graupel/graupel/benchmark/CallTimeHistogram", "counts", "[J", (.ref ca4)), ("com/example/graupel/graupel/benchmark/CallTimeHistogram", "total", "J", (.long (1 : Nat).toInt64))]) :: []) 226 #[.val (.long i0), .second, .val (.long i1), .second, .val (.int i2), .val (.long xa.toInt64), .second, .val (.long ya.toInt64), .second, .val (.int (0 : Int32)), .val (.int (1 : Int32)), .val (.ref a1), .val (.ref a3), .val (.ref a5), .val (.long (1 : Int64)), .second, .val (.long (hg (bk ya)).toInt64), .second, .val (.long (hg (bk ya)).toInt64), .second, .unset, .unset] [(.long (hg (bk ya)).toInt64)]
                    refine s_lload H at_226 rfl (pc' := 228) rfl ?_
                    refine s_lcmp H at_228 (pc' := 229) rfl ?_
                    refine s_if H at_229 (py := 234) (pc' := 232) l_eq (by decide) rfl (fun c229 => ?_) (fun c229 => ?_)
                    · refine s_iload H at_234 rfl (pc' := 236) rfl ?_
                      refine s_if H at_236 (py := 276) (pc' := 239) z_eq (by decide) rfl (fun c236 => ?_) (fun c236 => ?_)
                      · exact absurd c236 (by decide)
                      · refine s_iload H at_239 rfl (pc' := 241) rfl ?_
                        refine s_if H at_241 (py := 252) (pc' := 244) z_eq (by decide) rfl (fun c241 => ?_) (fun c241 => ?_)
                        · refine s_lload H at_252 rfl (pc' := 254) rfl ?_
                          refine s_goto H at_254 (pc' := 259) (by decide) ?_
                          refine s_lstore H at_259 (L' := fun z => #[.val (.long i0), .second, .val (.long i1), .second, .val (.int i2), .val (.long xa.toInt64), .second, .val (.long ya.toInt64), .second, .val (.int (0 : Int32)), .val (.int (1 : Int32)), .val (.ref a1), .val (.ref a3), .val (.ref a5), .val (.long (1 : Int64)), .second, .val (.long (hg (bk ya)).toInt64), .second, .val (.long (hg (bk ya)).toInt64), .second, .val (.long z), .second]) (fun _ => rfl) (pc' := 261) rfl (fun z0 hz => ?_)
                          subst z0
                          refine s_aload H at_261 rfl rfl (pc' := 263) rfl ?_
                          refine s_lconst H at_263 (z := (1 : Int64)) (by decide) (pc' := 264) rfl ?_
                          refine s_lconst H at_264 (z := (1 : Int64)) (by decide) (pc' := 265) rfl ?_
                          refine Go.perm own_p3 ?_
                          refine s_virtual H (met_q11 H.tb a3 ca4 cs7 (c1 (bk ya)) (S1 (bk ya)) (bk ya) Kcs7 (S1_s _) (bk_lt hy) (fun i hi => by unfold S1 c1; rw [if_neg (by omega), if_neg (by omega)]; omega) (by unfold S1 c1; rw [if_pos rfl]; omega) (fun i _ => Nat.lt_of_le_of_lt (c1_b _ _) (by decide)) (by decide) (by unfold S1; rw [if_neg (by omega)])) at_265 (i := 1) rfl (mem (i := 44) rfl) (mem (i := 45) rfl) (mem (i := 47) rfl) (mem (i := 46) rfl) (mem (i := 3) rfl) (mem (i := 48) rfl) (by decide) pd_9 rfl (rest := []) rfl rfl (by decide) (Nat.le_of_ble_eq_true rfl) (cn' := 6) (sn' := 165894) rfl rfl (by decide) (by decide) (pc' := 268) rfl (fun v0 M0 hq => ?_)
                          obtain ⟨rfl, hm0⟩ := hq
                          subst M0
                          show Go Z k 6 165894 ((ca4, ArL Z cs7) :: (a3, Obj Z "com/example/graupel/graupel/benchmark/CallTimeHistogram" [("com/example/graupel/graupel/benchmark/CallTimeHistogram", "counts", "[J", (.ref ca4)), ("com/example/graupel/graupel/benchmark/CallTimeHistogram", "total", "J", (.long (1 : Nat).toInt64))]) :: (ca2, ArL Z cs9) :: (a1, Obj Z "com/example/graupel/graupel/benchmark/CallTimeHistogram" [("com/example/graupel/graupel/benchmark/CallTimeHistogram", "counts", "[J", (.ref ca2)), ("com/example/graupel/graupel/benchmark/CallTimeHistogram", "total", "J", (.long (1 : Nat).toInt64))]) :: (ca6, ArL Z cs8) :: (a5, Obj Z "com/example/graupel/graupel/benchmark/CallTimeHistogram" [("com/example/graupel/graupel/benchmark/CallTimeHistogram", "counts", "[J", (.ref ca6)), ("com/example/graupel/graupel/benchmark/CallTimeHistogram", "total", "J", (.long (1 : Nat).toInt64))]) :: []) 268 #[.val (.long i0), .second, .val (.long i1), .second, .val (.int i2), .val (.long xa.toInt64), .second, .val (.long ya.toInt64), .second, .val (.int (0 : Int32)), .val (.int (1 : Int32)), .val (.ref a1), .val (.ref a3), .val (.ref a5), .val (.long (1 : Int64)), .second, .val (.long (hg (bk ya)).toInt64), .second, .val (.long (hg (bk ya)).toInt64), .second, .val (.long (hg (bk ya)).toInt64), .second] [(.long (hg (bk ya)).toInt64)]
                          refine s_lload H at_268 rfl (pc' := 270) rfl ?_
                          refine s_lcmp H at_270 (pc' := 271) rfl ?_
                          refine s_if H at_271 (py := 276) (pc' := 274) l_eq (by decide) rfl (fun c271 => ?_) (fun c271 => ?_)
                          · refine s_iconst H at_276 (z := (1 : Int32)) (by decide) (pc' := 277) rfl ?_
                            exact s_iret H at_277 rfl (by simp) (by decide) (by decide) (rfl)
                          · exact absurd rfl c271
                        · exact absurd c241 (by decide)
                    · exact absurd rfl c229
                  · exact absurd rfl c212
                · exact absurd c175 (by decide)
              · exact absurd c166 (by decide)
          · exact absurd c145 (by decide)
      · exact absurd c109 (by decide)
  · exact absurd c71 (by decide)
set_option maxRecDepth 65536 in
set_option maxHeartbeats 40000000 in
theorem s42_10 {Z : State} {k : Cx} {i0 i1 : Int64} {i2 : Int32} (xa ya : Nat) (H : Ok Z k room_1 (LQ) x code maxLocals ret) (hx : xa < 9223372036854775808) (hy : ya < 9223372036854775808) : Go Z k 0 0 ([] : Hp) 42 #[.val (.long i0), .second, .val (.long i1), .second, .val (.int i2), .val (.long xa.toInt64), .second, .val (.long ya.toInt64), .second, .val (.int (1 : Int32)), .val (.int (0 : Int32)), .unset, .unset, .unset, .unset, .unset, .unset, .unset, .unset, .unset, .unset, .unset] [] := by
  refine s_new H (C := "com/example/graupel/graupel/benchmark/CallTimeHistogram") [("com/example/graupel/graupel/benchmark/CallTimeHistogram", "counts", "[J", .null), ("com/example/graupel/graupel/benchmark/CallTimeHistogram", "total", "J", (.long (0 : Int64)))] at_42 (mem (i := 1) rfl) (mem (i := 2) rfl) (mem (i := 3) rfl) (allC ⟨Or.inr (mem (i := 26) rfl), (.array .long), by decide, rfl⟩ (allC ⟨Or.inl (mem (i := 33) rfl), .long, by decide, rfl⟩ allN)) (by decide) (cn' := 1) (sn' := 2) rfl rfl (by decide) (by decide) (pc' := 45) rfl (fun a1 => ?_)
  refine s_dup H at_45 rfl (pc' := 46) rfl ?_
  refine s_init H (met_hi H.tb a1) at_46 rfl (mem (i := 4) rfl) (mem (i := 5) rfl) (mem (i := 3) rfl) (mem (i := 6) rfl) (by decide) pd_1 rfl (rest := [(.ref a1)]) rfl rfl (by decide) (Nat.le_of_ble_eq_true rfl) (cn' := 2) (sn' := 55298) rfl rfl (by decide) (by decide) (pc' := 49) rfl (fun v0 M0 hq => ?_)
  obtain ⟨ca2, cs2, Kcs2, rfl, hm0⟩ := hq
  subst M0
  show Go Z k 2 55298 ((ca2, ArL Z cs2) :: (a1, Obj Z "com/example/graupel/graupel/benchmark/CallTimeHistogram" [("com/example/graupel/graupel/benchmark/CallTimeHistogram", "counts", "[J", (.ref ca2)), ("com/example/graupel/graupel/benchmark/CallTimeHistogram", "total", "J", (.long (0 : Nat).toInt64))]) :: []) 49 #[.val (.long i0), .second, .val (.long i1), .second, .val (.int i2), .val (.long xa.toInt64), .second, .val (.long ya.toInt64), .second, .val (.int (1 : Int32)), .val (.int (0 : Int32)), .unset, .unset, .unset, .unset, .unset, .unset, .unset, .unset, .unset, .unset, .unset] [(.ref a1)]
  refine s_astore H at_49 (L' := #[.val (.long i0), .second, .val (.long i1), .second, .val (.int i2), .val (.long xa.toInt64), .second, .val (.long ya.toInt64), .second, .val (.int (1 : Int32)), .val (.int (0 : Int32)), .val (.ref a1), .unset, .unset, .unset, .unset, .unset, .unset, .unset, .unset, .unset, .unset]) rfl rfl (pc' := 51) rfl ?_
  refine s_new H (C := "com/example/graupel/graupel/benchmark/CallTimeHistogram") [("com/example/graupel/graupel/benchmark/CallTimeHistogram", "counts", "[J", .null), ("com/example/graupel/graupel/benchmark/CallTimeHistogram", "total", "J", (.long (0 : Int64)))] at_51 (mem (i := 1) rfl) (mem (i := 2) rfl) (mem (i := 3) rfl) (allC ⟨Or.inr (mem (i := 26) rfl), (.array .long), by decide, rfl⟩ (allC ⟨Or.inl (mem (i := 33) rfl), .long, by decide, rfl⟩ allN)) (by decide) (cn' := 3) (sn' := 55300) rfl rfl (by decide) (by decide) (pc' := 54) rfl (fun a3 => ?_)
  refine s_dup H at_54 rfl (pc' := 55) rfl ?_
  refine s_init H (met_hi H.tb a3) at_55 rfl (mem (i := 4) rfl) (mem (i := 5) rfl) (mem (i := 3) rfl) (mem (i := 6) rfl) (by decide) pd_1 rfl (rest := [(.ref a3)]) rfl rfl (by decide) (Nat.le_of_ble_eq_true rfl) (cn' := 4) (sn' := 110596) rfl rfl (by decide) (by decide) (pc' := 58) rfl (fun v0 M0 hq => ?_)
  obtain ⟨ca4, cs4, Kcs4, rfl, hm0⟩ := hq
  subst M0
  show Go Z k 4 110596 ((ca4, ArL Z cs4) :: (a3, Obj Z "com/example/graupel/graupel/benchmark/CallTimeHistogram" [("com/example/graupel/graupel/benchmark/CallTimeHistogram", "counts", "[J", (.ref ca4)), ("com/example/graupel/graupel/benchmark/CallTimeHistogram", "total", "J", (.long (0 : Nat).toInt64))]) :: (ca2, ArL Z cs2) :: (a1, Obj Z "com/example/graupel/graupel/benchmark/CallTimeHistogram" [("com/example/graupel/graupel/benchmark/CallTimeHistogram", "counts", "[J", (.ref ca2)), ("com/example/graupel/graupel/benchmark/CallTimeHistogram", "total", "J", (.long (0 : Nat).toInt64))]) :: []) 58 #[.val (.long i0), .second, .val (.long i1), .second, .val (.int i2), .val (.long xa.toInt64), .second, .val (.long ya.toInt64), .second, .val (.int (1 : Int32)), .val (.int (0 : Int32)), .val (.ref a1), .unset, .unset, .unset, .unset, .unset, .unset, .unset, .unset, .unset, .unset] [(.ref a3)]
  refine s_astore H at_58 (L' := #[.val (.long i0), .second, .val (.long i1), .second, .val (.int i2), .val (.long xa.toInt64), .second, .val (.long ya.toInt64), .second, .val (.int (1 : Int32)), .val (.int (0 : Int32)), .val (.ref a1), .val (.ref a3), .unset, .unset, .unset, .unset, .unset, .unset, .unset, .unset, .unset]) rfl rfl (pc' := 60) rfl ?_
  refine s_new H (C := "com/example/graupel/graupel/benchmark/CallTimeHistogram") [("com/example/graupel/graupel/benchmark/CallTimeHistogram", "counts", "[J", .null), ("com/example/graupel/graupel/benchmark/CallTimeHistogram", "total", "J", (.long (0 : Int64)))] at_60 (mem (i := 1) rfl) (mem (i := 2) rfl) (mem (i := 3) rfl) (allC ⟨Or.inr (mem (i := 26) rfl), (.array .long), by decide, rfl⟩ (allC ⟨Or.inl (mem (i := 33) rfl), .long, by decide, rfl⟩ allN)) (by decide) (cn' := 5) (sn' := 110598) rfl rfl (by decide) (by decide) (pc' := 63) rfl (fun a5 => ?_)
  refine s_dup H at_63 rfl (pc' := 64) rfl ?_
  refine s_init H (met_hi H.tb a5) at_64 rfl (mem (i := 4) rfl) (mem (i := 5) rfl) (mem (i := 3) rfl) (mem (i := 6) rfl) (by decide) pd_1 rfl (rest := [(.ref a5)]) rfl rfl (by decide) (Nat.le_of_ble_eq_true rfl) (cn' := 6) (sn' := 165894) rfl rfl (by decide) (by decide) (pc' := 67) rfl (fun v0 M0 hq => ?_)
  obtain ⟨ca6, cs6, Kcs6, rfl, hm0⟩ := hq
  subst M0
  show Go Z k 6 165894 ((ca6, ArL Z cs6) :: (a5, Obj Z "com/example/graupel/graupel/benchmark/CallTimeHistogram" [("com/example/graupel/graupel/benchmark/CallTimeHistogram", "counts", "[J", (.ref ca6)), ("com/example/graupel/graupel/benchmark/CallTimeHistogram", "total", "J", (.long (0 : Nat).toInt64))]) :: (ca4, ArL Z cs4) :: (a3, Obj Z "com/example/graupel/graupel/benchmark/CallTimeHistogram" [("com/example/graupel/graupel/benchmark/CallTimeHistogram", "counts", "[J", (.ref ca4)), ("com/example/graupel/graupel/benchmark/CallTimeHistogram", "total", "J", (.long (0 : Nat).toInt64))]) :: (ca2, ArL Z cs2) :: (a1, Obj Z "com/example/graupel/graupel/benchmark/CallTimeHistogram" [("com/example/graupel/graupel/benchmark/CallTimeHistogram", "counts", "[J", (.ref ca2)), ("com/example/graupel/graupel/benchmark/CallTimeHistogram", "total", "J", (.long (0 : Nat).toInt64))]) :: []) 67 #[.val (.long i0), .second, .val (.long i1), .second, .val (.int i2), .val (.long xa.toInt64), .second, .val (.long ya.toInt64), .second, .val (.int (1 : Int32)), .val (.int (0 : Int32)), .val (.ref a1), .val (.ref a3), .unset, .unset, .unset, .unset, .unset, .unset, .unset, .unset, .unset] [(.ref a5)]
  refine s_astore H at_67 (L' := #[.val (.long i0), .second, .val (.long i1), .second, .val (.int i2), .val (.long xa.toInt64), .second, .val (.long ya.toInt64), .second, .val (.int (1 : Int32)), .val (.int (0 : Int32)), .val (.ref a1), .val (.ref a3), .val (.ref a5), .unset, .unset, .unset, .unset, .unset, .unset, .unset, .unset]) rfl rfl (pc' := 69) rfl ?_
  refine s_iload H at_69 rfl (pc' := 71) rfl ?_
  refine s_if H at_71 (py := 88) (pc' := 74) z_eq (by decide) rfl (fun c71 => ?_) (fun c71 => ?_)
  · exact absurd c71 (by decide)
  · refine s_aload H at_74 rfl rfl (pc' := 76) rfl ?_
    refine s_lload H at_76 rfl (pc' := 78) rfl ?_
    refine Go.perm own_p3 ?_
    refine s_virtual H (met_hr H.tb a1 ca2 cs2 (fun _ => 0) 0 xa Kcs2 hx) at_78 (i := 1) rfl (mem (i := 39) rfl) (mem (i := 40) rfl) (mem (i := 42) rfl) (mem (i := 41) rfl) (mem (i := 3) rfl) (mem (i := 43) rfl) (by decide) pd_8 rfl (rest := []) rfl rfl (by decide) (Nat.le_of_ble_eq_true rfl) (cn' := 6) (sn' := 165894) rfl rfl (by decide) (by decide) (pc' := 81) rfl (fun v0 M0 hq => ?_)
    obtain ⟨cs7, Kcs7', rfl, hm0⟩ := hq
    subst M0
    show Go Z k 6 165894 ((ca2, ArL Z cs7) :: (a1, Obj Z "com/example/graupel/graupel/benchmark/CallTimeHistogram" [("com/example/graupel/graupel/benchmark/CallTimeHistogram", "counts", "[J", (.ref ca2)), ("com/example/graupel/graupel/benchmark/CallTimeHistogram", "total", "J", (.long (1 : Nat).toInt64))]) :: (ca6, ArL Z cs6) :: (a5, Obj Z "com/example/graupel/graupel/benchmark/CallTimeHistogram" [("com/example/graupel/graupel/benchmark/CallTimeHistogram", "counts", "[J", (.ref ca6)), ("com/example/graupel/graupel/benchmark/CallTimeHistogram", "total", "J", (.long (0 : Nat).toInt64))]) :: (ca4, ArL Z cs4) :: (a3, Obj Z "com/example/graupel/graupel/benchmark/CallTimeHistogram" [("com/example/graupel/graupel/benchmark/CallTimeHistogram", "counts", "[J", (.ref ca4)), ("com/example/graupel/graupel/benchmark/CallTimeHistogram", "total", "J", (.long (0 : Nat).toInt64))]) :: []) 81 #[.val (.long i0), .second, .val (.long i1), .second, .val (.int i2), .val (.long xa.toInt64), .second, .val (.long ya.toInt64), .second, .val (.int (1 : Int32)), .val (.int (0 : Int32)), .val (.ref a1), .val (.ref a3), .val (.ref a5), .unset, .unset, .unset, .unset, .unset, .unset, .unset, .unset] []
    have Kcs7 : HI cs7 (c1 (bk xa)) := Kcs7'
    refine s_aload H at_81 rfl rfl (pc' := 83) rfl ?_
    refine s_lload H at_83 rfl (pc' := 85) rfl ?_
    refine Go.perm own_p2 ?_
    refine s_virtual H (met_hr H.tb a5 ca6 cs6 (fun _ => 0) 0 xa Kcs6 hx) at_85 (i := 1) rfl (mem (i := 39) rfl) (mem (i := 40) rfl) (mem (i := 42) rfl) (mem (i := 41) rfl) (mem (i := 3) rfl) (mem (i := 43) rfl) (by decide) pd_8 rfl (rest := []) rfl rfl (by decide) (Nat.le_of_ble_eq_true rfl) (cn' := 6) (sn' := 165894) rfl rfl (by decide) (by decide) (pc' := 88) rfl (fun v0 M0 hq => ?_)
    obtain ⟨cs8, Kcs8', rfl, hm0⟩ := hq
    subst M0
    show Go Z k 6 165894 ((ca6, ArL Z cs8) :: (a5, Obj Z "com/example/graupel/graupel/benchmark/CallTimeHistogram" [("com/example/graupel/graupel/benchmark/CallTimeHistogram", "counts", "[J", (.ref ca6)), ("com/example/graupel/graupel/benchmark/CallTimeHistogram", "total", "J", (.long (1 : Nat).toInt64))]) :: (ca2, ArL Z cs7) :: (a1, Obj Z "com/example/graupel/graupel/benchmark/CallTimeHistogram" [("com/example/graupel/graupel/benchmark/CallTimeHistogram", "counts", "[J", (.ref ca2)), ("com/example/graupel/graupel/benchmark/CallTimeHistogram", "total", "J", (.long (1 : Nat).toInt64))]) :: (ca4, ArL Z cs4) :: (a3, Obj Z "com/example/graupel/graupel/benchmark/CallTimeHistogram" [("com/example/graupel/graupel/benchmark/CallTimeHistogram", "counts", "[J", (.ref ca4)), ("com/example/graupel/graupel/benchmark/CallTimeHistogram", "total", "J", (.long (0 : Nat).toInt64))]) :: []) 88 #[.val (.long i0), .second, .val (.long i1), .second, .val (.int i2), .val (.long xa.toInt64), .second, .val (.long ya.toInt64), .second, .val (.int (1 : Int32)), .val (.int (0 : Int32)), .val (.ref a1), .val (.ref a3), .val (.ref a5), .unset, .unset, .unset, .unset, .unset, .unset, .unset, .unset] []
    have Kcs8 : HI cs8 (c1 (bk xa)) := Kcs8'
    refine s_iload H at_88 rfl (pc' := 90) rfl ?_
    refine s_if H at_90 (py := 107) (pc' := 93) z_eq (by decide) rfl (fun c90 => ?_) (fun c90 => ?_)
    · refine s_iload H at_107 rfl (pc' := 109) rfl ?_
      refine s_if H at_109 (py := 116) (pc' := 112) z_eq (by decide) rfl (fun c109 => ?_) (fun c109 => ?_)
      · exact absurd c109 (by decide)
      · refine s_lconst H at_112 (z := (1 : Int64)) (by decide) (pc' := 113) rfl ?_
        refine s_goto H at_113 (pc' := 117) (by decide) ?_
        refine s_iload H at_117 rfl (pc' := 119) rfl ?_
        refine s_if H at_119 (py := 126) (pc' := 122) z_eq (by decide) rfl (fun c119 => ?_) (fun c119 => ?_)
        · refine s_lconst H at_126 (z := (0 : Int64)) (by decide) (pc' := 127) rfl ?_
          refine s_ladd H at_127 (pc' := 128) rfl ?_
          rw [show ((1 : Int64) + (0 : Int64)) = (1 : Int64) from by decide]
          refine s_lstore H at_128 (L' := fun z => #[.val (.long i0), .second, .val (.long i1), .second, .val (.int i2), .val (.long xa.toInt64), .second, .val (.long ya.toInt64), .second, .val (.int (1 : Int32)), .val (.int (0 : Int32)), .val (.ref a1), .val (.ref a3), .val (.ref a5), .val (.long z), .second, .unset, .unset, .unset, .unset, .unset, .unset]) (fun _ => rfl) (pc' := 130) rfl (fun z0 hz => ?_)
          subst z0
          refine s_aload H at_130 rfl rfl (pc' := 132) rfl ?_
          refine s_aload H at_132 rfl rfl (pc' := 134) rfl ?_
          refine Go.perm own_p3 ?_
          refine Go.perm own_p3 ?_
          refine s_virtual H (met_ha H.tb a1 ca2 a3 ca4 cs7 cs4 (c1 (bk xa)) (fun _ => 0) 1 0 Kcs7 Kcs4) at_134 (i := 1) rfl (mem (i := 27) rfl) (mem (i := 28) rfl) (mem (i := 30) rfl) (mem (i := 29) rfl) (mem (i := 3) rfl) (mem (i := 31) rfl) (by decide) pd_6 rfl (rest := []) rfl rfl (by decide) (Nat.le_of_ble_eq_true rfl) (cn' := 6) (sn' := 165894) rfl rfl (by decide) (by decide) (pc' := 137) rfl (fun v0 M0 hq => ?_)
          obtain ⟨cs9, Kcs9', rfl, hm0⟩ := hq
          subst M0
          show Go Z k 6 165894 ((ca2, ArL Z cs9) :: (a1, Obj Z "com/example/graupel/graupel/benchmark/CallTimeHistogram" [("com/example/graupel/graupel/benchmark/CallTimeHistogram", "counts", "[J", (.ref ca2)), ("com/example/graupel/graupel/benchmark/CallTimeHistogram", "total", "J", (.long (1 : Nat).toInt64))]) :: (ca4, ArL Z cs4) :: (a3, Obj Z "com/example/graupel/graupel/benchmark/CallTimeHistogram" [("com/example/graupel/graupel/benchmark/CallTimeHistogram", "counts", "[J", (.ref ca4)), ("com/example/graupel/graupel/benchmark/CallTimeHistogram", "total", "J", (.long (0 : Nat).toInt64))]) :: (ca6, ArL Z cs8) :: (a5, Obj Z "com/example/graupel/graupel/benchmark/CallTimeHistogram" [("com/example/graupel/graupel/benchmark/CallTimeHistogram", "counts", "[J", (.ref ca6)), ("com/example/graupel/graupel/benchmark/CallTimeHistogram", "total", "J", (.long (1 : Nat).toInt64))]) :: []) 137 #[.val (.long i0), .second, .val (.long i1), .second, .val (.int i2), .val (.long xa.toInt64), .second, .val (.long ya.toInt64), .second, .val (.int (1 : Int32)), .val (.int (0 : Int32)), .val (.ref a1), .val (.ref a3), .val (.ref a5), .val (.long (1 : Int64)), .second, .unset, .unset, .unset, .unset, .unset, .unset] []
          have Kcs9 : HI cs9 (c1 (bk xa)) := Kcs9'.congr (fun i => by simp)
          refine s_aload H at_137 rfl rfl (pc' := 139) rfl ?_
          refine s_virtual H (met_hc H.tb a1 ca2 cs9 1) at_139 (i := 1) rfl (mem (i := 34) rfl) (mem (i := 35) rfl) (mem (i := 37) rfl) (mem (i := 36) rfl) (mem (i := 3) rfl) (mem (i := 38) rfl) (by decide) pd_7 rfl (rest := []) rfl rfl (by decide) (Nat.le_of_ble_eq_true rfl) (cn' := 6) (sn' := 165894) rfl rfl (by decide) (by decide) (pc' := 142) rfl (fun v0 M0 hq => ?_)
          obtain ⟨rfl, hm0⟩ := hq
          subst M0
          show Go Z k 6 165894 ((ca2, ArL Z cs9) :: (a1, Obj Z "com/example/graupel/graupel/benchmark/CallTimeHistogram" [("com/example/graupel/graupel/benchmark/CallTimeHistogram", "counts", "[J", (.ref ca2)), ("com/example/graupel/graupel/benchmark/CallTimeHistogram", "total", "J", (.long (1 : Nat).toInt64))]) :: (ca4, ArL Z cs4) :: (a3, Obj Z "com/example/graupel/graupel/benchmark/CallTimeHistogram" [("com/example/graupel/graupel/benchmark/CallTimeHistogram", "counts", "[J", (.ref ca4)), ("com/example/graupel/graupel/benchmark/CallTimeHistogram", "total", "J", (.long (0 : Nat).toInt64))]) :: (ca6, ArL Z cs8) :: (a5, Obj Z "com/example/graupel/graupel/benchmark/CallTimeHistogram" [("com/example/graupel/graupel/benchmark/CallTimeHistogram", "counts", "[J", (.ref ca6)), ("com/example/graupel/graupel/benchmark/CallTimeHistogram", "total", "J", (.long (1 : Nat).toInt64))]) :: []) 142 #[.val (.long i0), .second, .val (.long i1), .second, .val (.int i2), .val (.long xa.toInt64), .second, .val (.long ya.toInt64), .second, .val (.int (1 : Int32)), .val (.int (0 : Int32)), .val (.ref a1), .val (.ref a3), .val (.ref a5), .val (.long (1 : Int64)), .second, .unset, .unset, .unset, .unset, .unset, .unset] [(.long (1 : Int64))]
          refine s_lload H at_142 rfl (pc' := 144) rfl ?_
          refine s_lcmp H at_144 (pc' := 145) rfl ?_
          refine s_if H at_145 (py := 150) (pc' := 148) l_eq (by decide) rfl (fun c145 => ?_) (fun c145 => ?_)
          · refine s_aload H at_150 rfl rfl (pc' := 152) rfl ?_
            refine Go.perm own_p2 ?_
            refine s_virtual H (met_hc H.tb a3 ca4 cs4 0) at_152 (i := 1) rfl (mem (i := 34) rfl) (mem (i := 35) rfl) (mem (i := 37) rfl) (mem (i := 36) rfl) (mem (i := 3) rfl) (mem (i := 38) rfl) (by decide) pd_7 rfl (rest := []) rfl rfl (by decide) (Nat.le_of_ble_eq_true rfl) (cn' := 6) (sn' := 165894) rfl rfl (by decide) (by decide) (pc' := 155) rfl (fun v0 M0 hq => ?_)
            obtain ⟨rfl, hm0⟩ := hq
            subst M0
            show Go Z k 6 165894 ((ca4, ArL Z cs4) :: (a3, Obj Z "com/example/graupel/graupel/benchmark/CallTimeHistogram" [("com/example/graupel/graupel/benchmark/CallTimeHistogram", "counts", "[J", (.ref ca4)), ("com/example/graupel/graupel/benchmark/CallTimeHistogram", "total", "J", (.long (0 : Nat).toInt64))]) :: (ca2, ArL Z cs9) :: (a1, Obj Z "com/example/graupel/graupel/benchmark/CallTimeHistogram" [("com/example/graupel/graupel/benchmark/CallTimeHistogram", "counts", "[J", (.ref ca2)), ("com/example/graupel/graupel/benchmark/CallTimeHistogram", "total", "J", (.long (1 : Nat).toInt64))]) :: (ca6, ArL Z cs8) :: (a5, Obj Z "com/example/graupel/graupel/benchmark/CallTimeHistogram" [("com/example/graupel/graupel/benchmark/CallTimeHistogram", "counts", "[J", (.ref ca6)), ("com/example/graupel/graupel/benchmark/CallTimeHistogram", "total", "J", (.long (1 : Nat).toInt64))]) :: []) 155 #[.val (.long i0), .second, .val (.long i1), .second, .val (.int i2), .val (.long xa.toInt64), .second, .val (.long ya.toInt64), .second, .val (.int (1 : Int32)), .val (.int (0 : Int32)), .val (.ref a1), .val (.ref a3), .val (.ref a5), .val (.long (1 : Int64)), .second, .unset, .unset, .unset, .unset, .unset, .unset] [(.long (0 : Int64))]
            refine s_iload H at_155 rfl (pc' := 157) rfl ?_
            refine s_if H at_157 (py := 164) (pc' := 160) z_eq (by decide) rfl (fun c157 => ?_) (fun c157 => ?_)
            · refine s_lconst H at_164 (z := (0 : Int64)) (by decide) (pc' := 165) rfl ?_
              refine s_lcmp H at_165 (pc' := 166) rfl ?_
              refine s_if H at_166 (py := 171) (pc' := 169) l_eq (by decide) rfl (fun c166 => ?_) (fun c166 => ?_)
              · refine s_lload H at_171 rfl (pc' := 173) rfl ?_
                refine s_lconst H at_173 (z := (0 : Int64)) (by decide) (pc' := 174) rfl ?_
                refine s_lcmp H at_174 (pc' := 175) rfl ?_
                refine s_if H at_175 (py := 180) (pc' := 178) l_ne (by decide) rfl (fun c175 => ?_) (fun c175 => ?_)
                · refine s_aload H at_180 rfl rfl (pc' := 182) rfl ?_
                  refine s_lconst H at_182 (z := (1 : Int64)) (by decide) (pc' := 183) rfl ?_
                  refine s_lload H at_183 rfl (pc' := 185) rfl ?_
                  refine Go.perm own_p3 ?_
                  refine s_virtual H (met_q11 H.tb a5 ca6 cs8 (c1 (bk xa)) (S1 (bk xa)) (bk xa) Kcs8 (S1_s _) (bk_lt hx) (fun i hi => by unfold S1 c1; rw [if_neg (by omega), if_neg (by omega)]; omega) (by unfold S1 c1; rw [if_pos rfl]; omega) (fun i _ => Nat.lt_of_le_of_lt (c1_b _ _) (by decide)) (by decide) (by unfold S1; rw [if_neg (by omega)])) at_185 (i := 1) rfl (mem (i := 44) rfl) (mem (i := 45) rfl) (mem (i := 47) rfl) (mem (i := 46) rfl) (mem (i := 3) rfl) (mem (i := 48) rfl) (by decide) pd_9 rfl (rest := []) rfl rfl (by decide) (Nat.le_of_ble_eq_true rfl) (cn' := 6) (sn' := 165894) rfl rfl (by decide) (by decide) (pc' := 188) rfl (fun v0 M0 hq => ?_)
                  obtain ⟨rfl, hm0⟩ := hq
                  subst M0
                  show Go Z k 6 165894 ((ca6, ArL Z cs8) :: (a5, Obj Z "com/example/graupel/graupel/benchmark/CallTimeHistogram" [("com/example/graupel/graupel/benchmark/CallTimeHistogram", "counts", "[J", (.ref ca6)), ("com/example/graupel/graupel/benchmark/CallTimeHistogram", "total", "J", (.long (1 : Nat).toInt64))]) :: (ca4, ArL Z cs4) :: (a3, Obj Z "com/example/graupel/graupel/benchmark/CallTimeHistogram" [("com/example/graupel/graupel/benchmark/CallTimeHistogram", "counts", "[J", (.ref ca4)), ("com/example/graupel/graupel/benchmark/CallTimeHistogram", "total", "J", (.long (0 : Nat).toInt64))]) :: (ca2, ArL Z cs9) :: (a1, Obj Z "com/example/graupel/graupel/benchmark/CallTimeHistogram" [("com/example/graupel/graupel/benchmark/CallTimeHistogram", "counts", "[J", (.ref ca2)), ("com/example/graupel/graupel/benchmark/CallTimeHistogram", "total", "J", (.long (1 : Nat).toInt64))]) :: []) 188 #[.val (.long i0), .second, .val (.long i1), .second, .val (.int i2), .val (.long xa.toInt64), .second, .val (.long ya.toInt64), .second, .val (.int (1 : Int32)), .val (.int (0 : Int32)), .val (.ref a1), .val (.ref a3), .val (.ref a5), .val (.long (1 : Int64)), .second, .unset, .unset, .unset, .unset, .unset, .unset] [(.long (hg (bk xa)).toInt64)]
                  refine s_lstore H at_188 (L' := fun z => #[.val (.long i0), .second, .val (.long i1), .second, .val (.int i2), .val (.long xa.toInt64), .second, .val (.long ya.toInt64), .second, .val (.int (1 : Int32)), .val (.int (0 : Int32)), .val (.ref a1), .val (.ref a3), .val (.ref a5), .val (.long (1 : Int64)), .second, .val (.long z), .second, .unset, .unset, .unset, .unset]) (fun _ => rfl) (pc' := 190) rfl (fun z0 hz => ?_)
                  subst z0
                  refine s_aload H at_190 rfl rfl (pc' := 192) rfl ?_
                  refine s_lload H at_192 rfl (pc' := 194) rfl ?_
                  refine s_lload H at_194 rfl (pc' := 196) rfl ?_
                  refine s_virtual H (met_q11 H.tb a5 ca6 cs8 (c1 (bk xa)) (S1 (bk xa)) (bk xa) Kcs8 (S1_s _) (bk_lt hx) (fun i hi => by unfold S1 c1; rw [if_neg (by omega), if_neg (by omega)]; omega) (by unfold S1 c1; rw [if_pos rfl]; omega) (fun i _ => Nat.lt_of_le_of_lt (c1_b _ _) (by decide)) (by decide) (by unfold S1; rw [if_neg (by omega)])) at_196 (i := 1) rfl (mem (i := 44) rfl) (mem (i := 45) rfl) (mem (i := 47) rfl) (mem (i := 46) rfl) (mem (i := 3) rfl) (mem (i := 48) rfl) (by decide) pd_9 rfl (rest := []) rfl rfl (by decide) (Nat.le_of_ble_eq_true rfl) (cn' := 6) (sn' := 165894) rfl rfl (by decide) (by decide) (pc' := 199) rfl (fun v0 M0 hq => ?_)
                  obtain ⟨rfl, hm0⟩ := hq
                  subst M0
                  show Go Z k 6 165894 ((ca6, ArL Z cs8) :: (a5, Obj Z "com/example/graupel/graupel/benchmark/CallTimeHistogram" [("com/example/graupel/graupel/benchmark/CallTimeHistogram", "counts", "[J", (.ref ca6)), ("com/example/graupel/graupel/benchmark/CallTimeHistogram", "total", "J", (.long (1 : Nat).toInt64))]) :: (ca4, ArL Z cs4) :: (a3, Obj Z "com/example/graupel/graupel/benchmark/CallTimeHistogram" [("com/example/graupel/graupel/benchmark/CallTimeHistogram", "counts", "[J", (.ref ca4)), ("com/example/graupel/graupel/benchmark/CallTimeHistogram", "total", "J", (.long (0 : Nat).toInt64))]) :: (ca2, ArL Z cs9) :: (a1, Obj Z "com/example/graupel/graupel/benchmark/CallTimeHistogram" [("com/example/graupel/graupel/benchmark/CallTimeHistogram", "counts", "[J", (.ref ca2)), ("com/example/graupel/graupel/benchmark/CallTimeHistogram", "total", "J", (.long (1 : Nat).toInt64))]) :: []) 199 #[.val (.long i0), .second, .val (.long i1), .second, .val (.int i2), .val (.long xa.toInt64), .second, .val (.long ya.toInt64), .second, .val (.int (1 : Int32)), .val (.int (0 : Int32)), .val (.ref a1), .val (.ref a3), .val (.ref a5), .val (.long (1 : Int64)), .second, .val (.long (hg (bk xa)).toInt64), .second, .unset, .unset, .unset, .unset] [(.long (hg (bk xa)).toInt64)]
                  refine s_lstore H at_199 (L' := fun z => #[.val (.long i0), .second, .val (.long i1), .second, .val (.int i2), .val (.long xa.toInt64), .second, .val (.long ya.toInt64), .second, .val (.int (1 : Int32)), .val (.int (0 : Int32)), .val (.ref a1), .val (.ref a3), .val (.ref a5), .val (.long (1 : Int64)), .second, .val (.long (hg (bk xa)).toInt64), .second, .val (.long z), .second, .unset, .unset]) (fun _ => rfl) (pc' := 201) rfl (fun z0 hz => ?_)
                  subst z0
                  refine s_aload H at_201 rfl rfl (pc' := 203) rfl ?_
                  refine s_lconst H at_203 (z := (1 : Int64)) (by decide) (pc' := 204) rfl ?_
                  refine s_lload H at_204 rfl (pc' := 206) rfl ?_
                  refine Go.perm own_p3 ?_
                  refine s_virtual H (met_q11 H.tb a1 ca2 cs9 (c1 (bk xa)) (S1 (bk xa)) (bk xa) Kcs9 (S1_s _) (bk_lt hx) (fun i hi => by unfold S1 c1; rw [if_neg (by omega), if_neg (by omega)]; omega) (by unfold S1 c1; rw [if_pos rfl]; omega) (fun i _ => Nat.lt_of_le_of_lt (c1_b _ _) (by decide)) (by decide) (by unfold S1; rw [if_neg (by omega)])) at_206 (i := 1) rfl (mem (i := 44) rfl) (mem (i := 45) rfl) (mem (i := 47) rfl) (mem (i := 46) rfl) (mem (i := 3) rfl) (mem (i := 48) rfl) (by decide) pd_9 rfl (rest := []) rfl rfl (by decide) (Nat.le_of_ble_eq_true rfl) (cn' := 6) (sn' := 165894) rfl rfl (by decide) (by decide) (pc' := 209) rfl (fun v0 M0 hq => ?_)
                  obtain ⟨rfl, hm0⟩ := hq
                  subst M0
                  show Go Z k 6 165894 ((ca2, ArL Z cs9) :: (a1, Obj Z "com/example/graupel/graupel/benchmark/CallTimeHistogram" [("com/example/graupel/graupel/benchmark/CallTimeHistogram", "counts", "[J", (.ref ca2)), ("com/example/graupel/graupel/benchmark/CallTimeHistogram", "total", "J", (.long (1 : Nat).toInt64))]) :: (ca6, ArL Z cs8) :: (a5, Obj Z "com/example/graupel/graupel/benchmark/CallTimeHistogram" [("com/example/graupel/graupel/benchmark/CallTimeHistogram", "counts", "[J", (.ref ca6)), ("com/example/graupel/graupel/benchmark/CallTimeHistogram", "total", "J", (.long (1 : Nat).toInt64))]) :: (ca4, ArL Z cs4) :: (a3, Obj Z "com/example/graupel/graupel/benchmark/CallTimeHistogram" [("com/example/graupel/graupel/benchmark/CallTimeHistogram", "counts", "[J", (.ref ca4)), ("com/example/graupel/graupel/benchmark/CallTimeHistogram", "total", "J", (.long (0 : Nat).toInt64))]) :: []) 209 #[.val (.long i0), .second, .val (.long i1), .second, .val (.int i2), .val (.long xa.toInt64), .second, .val (.long ya.toInt64), .second, .val (.int (1 : Int32)), .val (.int (0 : Int32)), .val (.ref a1), .val (.ref a3), .val (.ref a5), .val (.long (1 : Int64)), .second, .val (.long (hg (bk xa)).toInt64), .second, .val (.long (hg (bk xa)).toInt64), .second, .unset, .unset] [(.long (hg (bk xa)).toInt64)]
                  refine s_lload H at_209 rfl (pc' := 211) rfl ?_
                  refine s_lcmp H at_211 (pc' := 212) rfl ?_
                  refine s_if H at_212 (py := 217) (pc' := 215) l_eq (by decide) rfl (fun c212 => ?_) (fun c212 => ?_)
                  · refine s_aload H at_217 rfl rfl (pc' := 219) rfl ?_
                    refine s_lload H at_219 rfl (pc' := 221) rfl ?_
                    refine s_lload H at_221 rfl (pc' := 223) rfl ?_
                    refine s_virtual H (met_q11 H.tb a1 ca2 cs9 (c1 (bk xa)) (S1 (bk xa)) (bk xa) Kcs9 (S1_s _) (bk_lt hx) (fun i hi => by unfold S1 c1; rw [if_neg (by omega), if_neg (by omega)]; omega) (by unfold S1 c1; rw [if_pos rfl]; omega) (fun i _ => Nat.lt_of_le_of_lt (c1_b _ _) (by decide)) (by decide) (by unfold S1; rw [if_neg (by omega)])) at_223 (i := 1) rfl (mem (i := 44) rfl) (mem (i := 45) rfl) (mem (i := 47) rfl) (mem (i := 46) rfl) (mem (i := 3) rfl) (mem (i := 48) rfl) (by decide) pd_9 rfl (rest := []) rfl rfl (by decide) (Nat.le_of_ble_eq_true rfl) (cn' := 6) (sn' := 165894) rfl rfl (by decide) (by decide) (pc' := 226) rfl (fun v0 M0 hq => ?_)
                    obtain ⟨rfl, hm0⟩ := hq
                    subst M0
                    show Go Z k 6 165894 ((ca2, ArL Z cs9) :: (a1, Obj Z "com/example/graupel/graupel/benchmark/CallTimeHistogram" [("com/example/graupel/graupel/benchmark/CallTimeHistogram", "counts", "[J", (.ref ca2)), ("com/example/graupel/graupel/benchmark/CallTimeHistogram", "total", "J", (.long (1 : Nat).toInt64))]) :: (ca6, ArL Z cs8) :: (a5, Obj Z "com/example/graupel/graupel/benchmark/CallTimeHistogram" [("com/example/graupel/graupel/benchmark/CallTimeHistogram", "counts", "[J", (.ref ca6)), ("com/example/graupel/graupel/benchmark/CallTimeHistogram", "total", "J", (.long (1 : Nat).toInt64))]) :: (ca4, ArL Z cs4) :: (a3, Obj Z "com/example/graupel/graupel/benchmark/CallTimeHistogram" [("com/example/graupel/graupel/benchmark/CallTimeHistogram", "counts", "[J", (.ref ca4)), ("com/example/graupel/graupel/benchmark/CallTimeHistogram", "total", "J", (.long (0 : Nat).toInt64))]) :: []) 226 #[.val (.long i0), .second, .val (.long i1), .second, .val (.int i2), .val (.long xa.toInt64), .second, .val (.long ya.toInt64), .second, .val (.int (1 : Int32)), .val (.int (0 : Int32)), .val (.ref a1), .val (.ref a3), .val (.ref a5), .val (.long (1 : Int64)), .second, .val (.long (hg (bk xa)).toInt64), .second, .val (.long (hg (bk xa)).toInt64), .second, .unset, .unset] [(.long (hg (bk xa)).toInt64)]
                    refine s_lload H at_226 rfl (pc' := 228) rfl ?_
                    refine s_lcmp H at_228 (pc' := 229) rfl ?_
                    refine s_if H at_229 (py := 234) (pc' := 232) l_eq (by decide) rfl (fun c229 => ?_) (fun c229 => ?_)
                    · refine s_iload H at_234 rfl (pc' := 236) rfl ?_
                      refine s_if H at_236 (py := 276) (pc' := 239) z_eq (by decide) rfl (fun c236 => ?_) (fun c236 => ?_)
                      · refine s_iconst H at_276 (z := (1 : Int32)) (by decide) (pc' := 277) rfl ?_
                        exact s_iret H at_277 rfl (by simp) (by decide) (by decide) (rfl)
                      · exact absurd c236 (by decide)
                    · exact absurd rfl c229
                  · exact absurd rfl c212
                · exact absurd c175 (by decide)
              · exact absurd c166 (by decide)
            · exact absurd c157 (by decide)
          · exact absurd c145 (by decide)
        · exact absurd c119 (by decide)
    · exact absurd c90 (by decide)
set_option maxRecDepth 65536 in
set_option maxHeartbeats 40000000 in
theorem s42_11 {Z : State} {k : Cx} {i0 i1 : Int64} {i2 : Int32} (xa ya : Nat) (H : Ok Z k room_1 (LQ) x code maxLocals ret) (hx : xa < 9223372036854775808) (hy : ya < 9223372036854775808) : Go Z k 0 0 ([] : Hp) 42 #[.val (.long i0), .second, .val (.long i1), .second, .val (.int i2), .val (.long xa.toInt64), .second, .val (.long ya.toInt64), .second, .val (.int (1 : Int32)), .val (.int (1 : Int32)), .unset, .unset, .unset, .unset, .unset, .unset, .unset, .unset, .unset, .unset, .unset] [] := by
  refine s_new H (C := "com/example/graupel/graupel/benchmark/CallTimeHistogram") [("com/example/graupel/graupel/benchmark/CallTimeHistogram", "counts", "[J", .null), ("com/example/graupel/graupel/benchmark/CallTimeHistogram", "total", "J", (.long (0 : Int64)))] at_42 (mem (i := 1) rfl) (mem (i := 2) rfl) (mem (i := 3) rfl) (allC ⟨Or.inr (mem (i := 26) rfl), (.array .long), by decide, rfl⟩ (allC ⟨Or.inl (mem (i := 33) rfl), .long, by decide, rfl⟩ allN)) (by decide) (cn' := 1) (sn' := 2) rfl rfl (by decide) (by decide) (pc' := 45) rfl (fun a1 => ?_)
  refine s_dup H at_45 rfl (pc' := 46) rfl ?_
  refine s_init H (met_hi H.tb a1) at_46 rfl (mem (i := 4) rfl) (mem (i := 5) rfl) (mem (i := 3) rfl) (mem (i := 6) rfl) (by decide) pd_1 rfl (rest := [(.ref a1)]) rfl rfl (by decide) (Nat.le_of_ble_eq_true rfl) (cn' := 2) (sn' := 55298) rfl rfl (by decide) (by decide) (pc' := 49) rfl (fun v0 M0 hq => ?_)
  obtain ⟨ca2, cs2, Kcs2, rfl, hm0⟩ := hq
  subst M0
  show Go Z k 2 55298 ((ca2, ArL Z cs2) :: (a1, Obj Z "com/example/graupel/graupel/benchmark/CallTimeHistogram" [("com/example/graupel/graupel/benchmark/CallTimeHistogram", "counts", "[J", (.ref ca2)), ("com/example/graupel/graupel/benchmark/CallTimeHistogram", "total", "J", (.long (0 : Nat).toInt64))]) :: []) 49 #[.val (.long i0), .second, .val (.long i1), .second, .val (.int i2), .val (.long xa.toInt64), .second, .val (.long ya.toInt64), .second, .val (.int (1 : Int32)), .val (.int (1 : Int32)), .unset, .unset, .unset, .unset, .unset, .unset, .unset, .unset, .unset, .unset, .unset] [(.ref a1)]
  refine s_astore H at_49 (L' := #[.val (.long i0), .second, .val (.long i1), .second, .val (.int i2), .val (.long xa.toInt64), .second, .val (.long ya.toInt64), .second, .val (.int (1 : Int32)), .val (.int (1 : Int32)), .val (.ref a1), .unset, .unset, .unset, .unset, .unset, .unset, .unset, .unset, .unset, .unset]) rfl rfl (pc' := 51) rfl ?_
  refine s_new H (C := "com/example/graupel/graupel/benchmark/CallTimeHistogram") [("com/example/graupel/graupel/benchmark/CallTimeHistogram", "counts", "[J", .null), ("com/example/graupel/graupel/benchmark/CallTimeHistogram", "total", "J", (.long (0 : Int64)))] at_51 (mem (i := 1) rfl) (mem (i := 2) rfl) (mem (i := 3) rfl) (allC ⟨Or.inr (mem (i := 26) rfl), (.array .long), by decide, rfl⟩ (allC ⟨Or.inl (mem (i := 33) rfl), .long, by decide, rfl⟩ allN)) (by decide) (cn' := 3) (sn' := 55300) rfl rfl (by decide) (by decide) (pc' := 54) rfl (fun a3 => ?_)
  refine s_dup H at_54 rfl (pc' := 55) rfl ?_
  refine s_init H (met_hi H.tb a3) at_55 rfl (mem (i := 4) rfl) (mem (i := 5) rfl) (mem (i := 3) rfl) (mem (i := 6) rfl) (by decide) pd_1 rfl (rest := [(.ref a3)]) rfl rfl (by decide) (Nat.le_of_ble_eq_true rfl) (cn' := 4) (sn' := 110596) rfl rfl (by decide) (by decide) (pc' := 58) rfl (fun v0 M0 hq => ?_)
  obtain ⟨ca4, cs4, Kcs4, rfl, hm0⟩ := hq
  subst M0
  show Go Z k 4 110596 ((ca4, ArL Z cs4) :: (a3, Obj Z "com/example/graupel/graupel/benchmark/CallTimeHistogram" [("com/example/graupel/graupel/benchmark/CallTimeHistogram", "counts", "[J", (.ref ca4)), ("com/example/graupel/graupel/benchmark/CallTimeHistogram", "total", "J", (.long (0 : Nat).toInt64))]) :: (ca2, ArL Z cs2) :: (a1, Obj Z "com/example/graupel/graupel/benchmark/CallTimeHistogram" [("com/example/graupel/graupel/benchmark/CallTimeHistogram", "counts", "[J", (.ref ca2)), ("com/example/graupel/graupel/benchmark/CallTimeHistogram", "total", "J", (.long (0 : Nat).toInt64))]) :: []) 58 #[.val (.long i0), .second, .val (.long i1), .second, .val (.int i2), .val (.long xa.toInt64), .second, .val (.long ya.toInt64), .second, .val (.int (1 : Int32)), .val (.int (1 : Int32)), .val (.ref a1), .unset, .unset, .unset, .unset, .unset, .unset, .unset, .unset, .unset, .unset] [(.ref a3)]
  refine s_astore H at_58 (L' := #[.val (.long i0), .second, .val (.long i1), .second, .val (.int i2), .val (.long xa.toInt64), .second, .val (.long ya.toInt64), .second, .val (.int (1 : Int32)), .val (.int (1 : Int32)), .val (.ref a1), .val (.ref a3), .unset, .unset, .unset, .unset, .unset, .unset, .unset, .unset, .unset]) rfl rfl (pc' := 60) rfl ?_
  refine s_new H (C := "com/example/graupel/graupel/benchmark/CallTimeHistogram") [("com/example/graupel/graupel/benchmark/CallTimeHistogram", "counts", "[J", .null), ("com/example/graupel/graupel/benchmark/CallTimeHistogram", "total", "J", (.long (0 : Int64)))] at_60 (mem (i := 1) rfl) (mem (i := 2) rfl) (mem (i := 3) rfl) (allC ⟨Or.inr (mem (i := 26) rfl), (.array .long), by decide, rfl⟩ (allC ⟨Or.inl (mem (i := 33) rfl), .long, by decide, rfl⟩ allN)) (by decide) (cn' := 5) (sn' := 110598) rfl rfl (by decide) (by decide) (pc' := 63) rfl (fun a5 => ?_)
  refine s_dup H at_63 rfl (pc' := 64) rfl ?_
  refine s_init H (met_hi H.tb a5) at_64 rfl (mem (i := 4) rfl) (mem (i := 5) rfl) (mem (i := 3) rfl) (mem (i := 6) rfl) (by decide) pd_1 rfl (rest := [(.ref a5)]) rfl rfl (by decide) (Nat.le_of_ble_eq_true rfl) (cn' := 6) (sn' := 165894) rfl rfl (by decide) (by decide) (pc' := 67) rfl (fun v0 M0 hq => ?_)
  obtain ⟨ca6, cs6, Kcs6, rfl, hm0⟩ := hq
  subst M0
  show Go Z k 6 165894 ((ca6, ArL Z cs6) :: (a5, Obj Z "com/example/graupel/graupel/benchmark/CallTimeHistogram" [("com/example/graupel/graupel/benchmark/CallTimeHistogram", "counts", "[J", (.ref ca6)), ("com/example/graupel/graupel/benchmark/CallTimeHistogram", "total", "J", (.long (0 : Nat).toInt64))]) :: (ca4, ArL Z cs4) :: (a3, Obj Z "com/example/graupel/graupel/benchmark/CallTimeHistogram" [("com/example/graupel/graupel/benchmark/CallTimeHistogram", "counts", "[J", (.ref ca4)), ("com/example/graupel/graupel/benchmark/CallTimeHistogram", "total", "J", (.long (0 : Nat).toInt64))]) :: (ca2, ArL Z cs2) :: (a1, Obj Z "com/example/graupel/graupel/benchmark/CallTimeHistogram" [("com/example/graupel/graupel/benchmark/CallTimeHistogram", "counts", "[J", (.ref ca2)), ("com/example/graupel/graupel/benchmark/CallTimeHistogram", "total", "J", (.long (0 : Nat).toInt64))]) :: []) 67 #[.val (.long i0), .second, .val (.long i1), .second, .val (.int i2), .val (.long xa.toInt64), .second, .val (.long ya.toInt64), .second, .val (.int (1 : Int32)), .val (.int (1 : Int32)), .val (.ref a1), .val (.ref a3), .unset, .unset, .unset, .unset, .unset, .unset, .unset, .unset, .unset] [(.ref a5)]
  refine s_astore H at_67 (L' := #[.val (.long i0), .second, .val (.long i1), .second, .val (.int i2), .val (.long xa.toInt64), .second, .val (.long ya.toInt64), .second, .val (.int (1 : Int32)), .val (.int (1 : Int32)), .val (.ref a1), .val (.ref a3), .val (.ref a5), .unset, .unset, .unset, .unset, .unset, .unset, .unset, .unset]) rfl rfl (pc' := 69) rfl ?_
  refine s_iload H at_69 rfl (pc' := 71) rfl ?_
  refine s_if H at_71 (py := 88) (pc' := 74) z_eq (by decide) rfl (fun c71 => ?_) (fun c71 => ?_)
  · exact absurd c71 (by decide)
  · refine s_aload H at_74 rfl rfl (pc' := 76) rfl ?_
    refine s_lload H at_76 rfl (pc' := 78) rfl ?_
    refine Go.perm own_p3 ?_
    refine s_virtual H (met_hr H.tb a1 ca2 cs2 (fun _ => 0) 0 xa Kcs2 hx) at_78 (i := 1) rfl (mem (i := 39) rfl) (mem (i := 40) rfl) (mem (i := 42) rfl) (mem (i := 41) rfl) (mem (i := 3) rfl) (mem (i := 43) rfl) (by decide) pd_8 rfl (rest := []) rfl rfl (by decide) (Nat.le_of_ble_eq_true rfl) (cn' := 6) (sn' := 165894) rfl rfl (by decide) (by decide) (pc' := 81) rfl (fun v0 M0 hq => ?_)
    obtain ⟨cs7, Kcs7', rfl, hm0⟩ := hq
    subst M0
    show Go Z k 6 165894 ((ca2, ArL Z cs7) :: (a1, Obj Z "com/example/graupel/graupel/benchmark/CallTimeHistogram" [("com/example/graupel/graupel/benchmark/CallTimeHistogram", "counts", "[J", (.ref ca2)), ("com/example/graupel/graupel/benchmark/CallTimeHistogram", "total", "J", (.long (1 : Nat).toInt64))]) :: (ca6, ArL Z cs6) :: (a5, Obj Z "com/example/graupel/graupel/benchmark/CallTimeHistogram" [("com/example/graupel/graupel/benchmark/CallTimeHistogram", "counts", "[J", (.ref ca6)), ("com/example/graupel/graupel/benchmark/CallTimeHistogram", "total", "J", (.long (0 : Nat).toInt64))]) :: (ca4, ArL Z cs4) :: (a3, Obj Z "com/example/graupel/graupel/benchmark/CallTimeHistogram" [("com/example/graupel/graupel/benchmark/CallTimeHistogram", "counts", "[J", (.ref ca4)), ("com/example/graupel/graupel/benchmark/CallTimeHistogram", "total", "J", (.long (0 : Nat).toInt64))]) :: []) 81 #[.val (.long i0), .second, .val (.long i1), .second, .val (.int i2), .val (.long xa.toInt64), .second, .val (.long ya.toInt64), .second, .val (.int (1 : Int32)), .val (.int (1 : Int32)), .val (.ref a1), .val (.ref a3), .val (.ref a5), .unset, .unset, .unset, .unset, .unset, .unset, .unset, .unset] []
    have Kcs7 : HI cs7 (c1 (bk xa)) := Kcs7'
    refine s_aload H at_81 rfl rfl (pc' := 83) rfl ?_
    refine s_lload H at_83 rfl (pc' := 85) rfl ?_
    refine Go.perm own_p2 ?_
    refine s_virtual H (met_hr H.tb a5 ca6 cs6 (fun _ => 0) 0 xa Kcs6 hx) at_85 (i := 1) rfl (mem (i := 39) rfl) (mem (i := 40) rfl) (mem (i := 42) rfl) (mem (i := 41) rfl) (mem (i := 3) rfl) (mem (i := 43) rfl) (by decide) pd_8 rfl (rest := []) rfl rfl (by decide) (Nat.le_of_ble_eq_true rfl) (cn' := 6) (sn' := 165894) rfl rfl (by decide) (by decide) (pc' := 88) rfl (fun v0 M0 hq => ?_)
    obtain ⟨cs8, Kcs8', rfl, hm0⟩ := hq
    subst M0
    show Go Z k 6 165894 ((ca6, ArL Z cs8) :: (a5, Obj Z "com/example/graupel/graupel/benchmark/CallTimeHistogram" [("com/example/graupel/graupel/benchmark/CallTimeHistogram", "counts", "[J", (.ref ca6)), ("com/example/graupel/graupel/benchmark/CallTimeHistogram", "total", "J", (.long (1 : Nat).toInt64))]) :: (ca2, ArL Z cs7) :: (a1, Obj Z "com/example/graupel/graupel/benchmark/CallTimeHistogram" [("com/example/graupel/graupel/benchmark/CallTimeHistogram", "counts", "[J", (.ref ca2)), ("com/example/graupel/graupel/benchmark/CallTimeHistogram", "total", "J", (.long (1 : Nat).toInt64))]) :: (ca4, ArL Z cs4) :: (a3, Obj Z "com/example/graupel/graupel/benchmark/CallTimeHistogram" [("com/example/graupel/graupel/benchmark/CallTimeHistogram", "counts", "[J", (.ref ca4)), ("com/example/graupel/graupel/benchmark/CallTimeHistogram", "total", "J", (.long (0 : Nat).toInt64))]) :: []) 88 #[.val (.long i0), .second, .val (.long i1), .second, .val (.int i2), .val (.long xa.toInt64), .second, .val (.long ya.toInt64), .second, .val (.int (1 : Int32)), .val (.int (1 : Int32)), .val (.ref a1), .val (.ref a3), .val (.ref a5), .unset, .unset, .unset, .unset, .unset, .unset, .unset, .unset] []
    have Kcs8 : HI cs8 (c1 (bk xa)) := Kcs8'
    refine s_iload H at_88 rfl (pc' := 90) rfl ?_
    refine s_if H at_90 (py := 107) (pc' := 93) z_eq (by decide) rfl (fun c90 => ?_) (fun c90 => ?_)
    · exact absurd c90 (by decide)
    · refine s_aload H at_93 rfl rfl (pc' := 95) rfl ?_
      refine s_lload H at_95 rfl (pc' := 97) rfl ?_
      refine Go.perm own_p3 ?_
      refine s_virtual H (met_hr H.tb a3 ca4 cs4 (fun _ => 0) 0 ya Kcs4 hy) at_97 (i := 1) rfl (mem (i := 39) rfl) (mem (i := 40) rfl) (mem (i := 42) rfl) (mem (i := 41) rfl) (mem (i := 3) rfl) (mem (i := 43) rfl) (by decide) pd_8 rfl (rest := []) rfl rfl (by decide) (Nat.le_of_ble_eq_true rfl) (cn' := 6) (sn' := 165894) rfl rfl (by decide) (by decide) (pc' := 100) rfl (fun v0 M0 hq => ?_)
      obtain ⟨cs9, Kcs9', rfl, hm0⟩ := hq
      subst M0
      show Go Z k 6 165894 ((ca4, ArL Z cs9) :: (a3, Obj Z "com/example/graupel/graupel/benchmark/CallTimeHistogram" [("com/example/graupel/graupel/benchmark/CallTimeHistogram", "counts", "[J", (.ref ca4)), ("com/example/graupel/graupel/benchmark/CallTimeHistogram", "total", "J", (.long (1 : Nat).toInt64))]) :: (ca6, ArL Z cs8) :: (a5, Obj Z "com/example/graupel/graupel/benchmark/CallTimeHistogram" [("com/example/graupel/graupel/benchmark/CallTimeHistogram", "counts", "[J", (.ref ca6)), ("com/example/graupel/graupel/benchmark/CallTimeHistogram", "total", "J", (.long (1 : Nat).toInt64))]) :: (ca2, ArL Z cs7) :: (a1, Obj Z "com/example/graupel/graupel/benchmark/CallTimeHistogram" [("com/example/graupel/graupel/benchmark/CallTimeHistogram", "counts", "[J", (.ref ca2)), ("com/example/graupel/graupel/benchmark/CallTimeHistogram", "total", "J", (.long (1 : Nat).toInt64))]) :: []) 100 #[.val (.long i0), .second, .val (.long i1), .second, .val (.int i2), .val (.long xa.toInt64), .second, .val (.long ya.toInt64), .second, .val (.int (1 : Int32)), .val (.int (1 : Int32)), .val (.ref a1), .val (.ref a3), .val (.ref a5), .unset, .unset, .unset, .unset, .unset, .unset, .unset, .unset] []
      have Kcs9 : HI cs9 (c1 (bk ya)) := Kcs9'
      refine s_aload H at_100 rfl rfl (pc' := 102) rfl ?_
      refine s_lload H at_102 rfl (pc' := 104) rfl ?_
      refine Go.perm own_p2 ?_
      refine s_virtual H (met_hr H.tb a5 ca6 cs8 (c1 (bk xa)) 1 ya Kcs8 hy) at_104 (i := 1) rfl (mem (i := 39) rfl) (mem (i := 40) rfl) (mem (i := 42) rfl) (mem (i := 41) rfl) (mem (i := 3) rfl) (mem (i := 43) rfl) (by decide) pd_8 rfl (rest := []) rfl rfl (by decide) (Nat.le_of_ble_eq_true rfl) (cn' := 6) (sn' := 165894) rfl rfl (by decide) (by decide) (pc' := 107) rfl (fun v0 M0 hq => ?_)
      obtain ⟨cs10, Kcs10', rfl, hm0⟩ := hq
      subst M0
      show Go Z k 6 165894 ((ca6, ArL Z cs10) :: (a5, Obj Z "com/example/graupel/graupel/benchmark/CallTimeHistogram" [("com/example/graupel/graupel/benchmark/CallTimeHistogram", "counts", "[J", (.ref ca6)), ("com/example/graupel/graupel/benchmark/CallTimeHistogram", "total", "J", (.long (2 : Nat).toInt64))]) :: (ca4, ArL Z cs9) :: (a3, Obj Z "com/example/graupel/graupel/benchmark/CallTimeHistogram" [("com/example/graupel/graupel/benchmark/CallTimeHistogram", "counts", "[J", (.ref ca4)), ("com/example/graupel/graupel/benchmark/CallTimeHistogram", "total", "J", (.long (1 : Nat).toInt64))]) :: (ca2, ArL Z cs7) :: (a1, Obj Z "com/example/graupel/graupel/benchmark/CallTimeHistogram" [("com/example/graupel/graupel/benchmark/CallTimeHistogram", "counts", "[J", (.ref ca2)), ("com/example/graupel/graupel/benchmark/CallTimeHistogram", "total", "J", (.long (1 : Nat).toInt64))]) :: []) 107 #[.val (.long i0), .second, .val (.long i1), .second, .val (.int i2), .val (.long xa.toInt64), .second, .val (.long ya.toInt64), .second, .val (.int (1 : Int32)), .val (.int (1 : Int32)), .val (.ref a1), .val (.ref a3), .val (.ref a5), .unset, .unset, .unset, .unset, .unset, .unset, .unset, .unset] []
      have Kcs10 : HI cs10 (c2 (bk xa) (bk ya)) := Kcs10'
      refine s_iload H at_107 rfl (pc' := 109) rfl ?_
      refine s_if H at_109 (py := 116) (pc' := 112) z_eq (by decide) rfl (fun c109 => ?_) (fun c109 => ?_)
      · exact absurd c109 (by decide)
      · refine s_lconst H at_112 (z := (1 : Int64)) (by decide) (pc' := 113) rfl ?_
        refine s_goto H at_113 (pc' := 117) (by decide) ?_
        refine s_iload H at_117 rfl (pc' := 119) rfl ?_
        refine s_if H at_119 (py := 126) (pc' := 122) z_eq (by decide) rfl (fun c119 => ?_) (fun c119 => ?_)
        · exact absurd c119 (by decide)
        · refine s_lconst H at_122 (z := (1 : Int64)) (by decide) (pc' := 123) rfl ?_
          refine s_goto H at_123 (pc' := 127) (by decide) ?_
          refine s_ladd H at_127 (pc' := 128) rfl ?_
          rw [show ((1 : Int64) + (1 : Int64)) = (2 : Int64) from by decide]
          refine s_lstore H at_128 (L' := fun z => #[.val (.long i0), .second, .val (.long i1), .second, .val (.int i2), .val (.long xa.toInt64), .second, .val (.long ya.toInt64), .second, .val (.int (1 : Int32)), .val (.int (1 : Int32)), .val (.ref a1), .val (.ref a3), .val (.ref a5), .val (.long z), .second, .unset, .unset, .unset, .unset, .unset, .unset]) (fun _ => rfl) (pc' := 130) rfl (fun z0 hz => ?_)
          subst z0
          refine s_aload H at_130 rfl rfl (pc' := 132) rfl ?_
          refine s_aload H at_132 rfl rfl (pc' := 134) rfl ?_
          refine Go.perm own_p2 ?_
          refine Go.perm own_p3 ?_
          refine s_virtual H (met_ha H.tb a1 ca2 a3 ca4 cs7 cs9 (c1 (bk xa)) (c1 (bk ya)) 1 1 Kcs7 Kcs9) at_134 (i := 1) rfl (mem (i := 27) rfl) (mem (i := 28) rfl) (mem (i := 30) rfl) (mem (i := 29) rfl) (mem (i := 3) rfl) (mem (i := 31) rfl) (by decide) pd_6 rfl (rest := []) rfl rfl (by decide) (Nat.le_of_ble_eq_true rfl) (cn' := 6) (sn' := 165894) rfl rfl (by decide) (by decide) (pc' := 137) rfl (fun v0 M0 hq => ?_)
          obtain ⟨cs11, Kcs11', rfl, hm0⟩ := hq
          subst M0
          show Go Z k 6 165894 ((ca2, ArL Z cs11) :: (a1, Obj Z "com/example/graupel/graupel/benchmark/CallTimeHistogram" [("com/example/graupel/graupel/benchmark/CallTimeHistogram", "counts", "[J", (.ref ca2)), ("com/example/graupel/graupel/benchmark/CallTimeHistogram", "total", "J", (.long (2 : Nat).toInt64))]) :: (ca4, ArL Z cs9) :: (a3, Obj Z "com/example/graupel/graupel/benchmark/CallTimeHistogram" [("com/example/graupel/graupel/benchmark/CallTimeHistogram", "counts", "[J", (.ref ca4)), ("com/example/graupel/graupel/benchmark/CallTimeHistogram", "total", "J", (.long (1 : Nat).toInt64))]) :: (ca6, ArL Z cs10) :: (a5, Obj Z "com/example/graupel/graupel/benchmark/CallTimeHistogram" [("com/example/graupel/graupel/benchmark/CallTimeHistogram", "counts", "[J", (.ref ca6)), ("com/example/graupel/graupel/benchmark/CallTimeHistogram", "total", "J", (.long (2 : Nat).toInt64))]) :: []) 137 #[.val (.long i0), .second, .val (.long i1), .second, .val (.int i2), .val (.long xa.toInt64), .second, .val (.long ya.toInt64), .second, .val (.int (1 : Int32)), .val (.int (1 : Int32)), .val (.ref a1), .val (.ref a3), .val (.ref a5), .val (.long (2 : Int64)), .second, .unset, .unset, .unset, .unset, .unset, .unset] []
          have Kcs11 : HI cs11 (c2 (bk xa) (bk ya)) := Kcs11'.congr (fun i => by unfold c2 c1; omega)
          refine s_aload H at_137 rfl rfl (pc' := 139) rfl ?_
          refine s_virtual H (met_hc H.tb a1 ca2 cs11 2) at_139 (i := 1) rfl (mem (i := 34) rfl) (mem (i := 35) rfl) (mem (i := 37) rfl) (mem (i := 36) rfl) (mem (i := 3) rfl) (mem (i := 38) rfl) (by decide) pd_7 rfl (rest := []) rfl rfl (by decide) (Nat.le_of_ble_eq_true rfl) (cn' := 6) (sn' := 165894) rfl rfl (by decide) (by decide) (pc' := 142) rfl (fun v0 M0 hq => ?_)
          obtain ⟨rfl, hm0⟩ := hq
          subst M0
          show Go Z k 6 165894 ((ca2, ArL Z cs11) :: (a1, Obj Z "com/example/graupel/graupel/benchmark/CallTimeHistogram" [("com/example/graupel/graupel/benchmark/CallTimeHistogram", "counts", "[J", (.ref ca2)), ("com/example/graupel/graupel/benchmark/CallTimeHistogram", "total", "J", (.long (2 : Nat).toInt64))]) :: (ca4, ArL Z cs9) :: (a3, Obj Z "com/example/graupel/graupel/benchmark/CallTimeHistogram" [("com/example/graupel/graupel/benchmark/CallTimeHistogram", "counts", "[J", (.ref ca4)), ("com/example/graupel/graupel/benchmark/CallTimeHistogram", "total", "J", (.long (1 : Nat).toInt64))]) :: (ca6, ArL Z cs10) :: (a5, Obj Z "com/example/graupel/graupel/benchmark/CallTimeHistogram" [("com/example/graupel/graupel/benchmark/CallTimeHistogram", "counts", "[J", (.ref ca6)), ("com/example/graupel/graupel/benchmark/CallTimeHistogram", "total", "J", (.long (2 : Nat).toInt64))]) :: []) 142 #[.val (.long i0), .second, .val (.long i1), .second, .val (.int i2), .val (.long xa.toInt64), .second, .val (.long ya.toInt64), .second, .val (.int (1 : Int32)), .val (.int (1 : Int32)), .val (.ref a1), .val (.ref a3), .val (.ref a5), .val (.long (2 : Int64)), .second, .unset, .unset, .unset, .unset, .unset, .unset] [(.long (2 : Int64))]
          refine s_lload H at_142 rfl (pc' := 144) rfl ?_
          refine s_lcmp H at_144 (pc' := 145) rfl ?_
          refine s_if H at_145 (py := 150) (pc' := 148) l_eq (by decide) rfl (fun c145 => ?_) (fun c145 => ?_)
          · refine s_aload H at_150 rfl rfl (pc' := 152) rfl ?_
            refine Go.perm own_p2 ?_
            refine s_virtual H (met_hc H.tb a3 ca4 cs9 1) at_152 (i := 1) rfl (mem (i := 34) rfl) (mem (i := 35) rfl) (mem (i := 37) rfl) (mem (i := 36) rfl) (mem (i := 3) rfl) (mem (i := 38) rfl) (by decide) pd_7 rfl (rest := []) rfl rfl (by decide) (Nat.le_of_ble_eq_true rfl) (cn' := 6) (sn' := 165894) rfl rfl (by decide) (by decide) (pc' := 155) rfl (fun v0 M0 hq => ?_)
            obtain ⟨rfl, hm0⟩ := hq
            subst M0
            show Go Z k 6 165894 ((ca4, ArL Z cs9) :: (a3, Obj Z "com/example/graupel/graupel/benchmark/CallTimeHistogram" [("com/example/graupel/graupel/benchmark/CallTimeHistogram", "counts", "[J", (.ref ca4)), ("com/example/graupel/graupel/benchmark/CallTimeHistogram", "total", "J", (.long (1 : Nat).toInt64))]) :: (ca2, ArL Z cs11) :: (a1, Obj Z "com/example/graupel/graupel/benchmark/CallTimeHistogram" [("com/example/graupel/graupel/benchmark/CallTimeHistogram", "counts", "[J", (.ref ca2)), ("com/example/graupel/graupel/benchmark/CallTimeHistogram", "total", "J", (.long (2 : Nat).toInt64))]) :: (ca6, ArL Z cs10) :: (a5, Obj Z "com/example/graupel/graupel/benchmark/CallTimeHistogram" [("com/example/graupel/graupel/benchmark/CallTimeHistogram", "counts", "[J", (.ref ca6)), ("com/example/graupel/graupel/benchmark/CallTimeHistogram", "total", "J", (.long (2 : Nat).toInt64))]) :: []) 155 #[.val (.long i0), .second, .val (.long i1), .second, .val (.int i2), .val (.long xa.toInt64), .second, .val (.long ya.toInt64), .second, .val (.int (1 : Int32)), .val (.int (1 : Int32)), .val (.ref a1), .val (.ref a3), .val (.ref a5), .val (.long (2 : Int64)), .second, .unset, .unset, .unset, .unset, .unset, .unset] [(.long (1 : Int64))]
            refine s_iload H at_155 rfl (pc' := 157) rfl ?_
            refine s_if H at_157 (py := 164) (pc' := 160) z_eq (by decide) rfl (fun c157 => ?_) (fun c157 => ?_)
            · exact absurd c157 (by decide)
            · refine s_lconst H at_160 (z := (1 : Int64)) (by decide) (pc' := 161) rfl ?_
              refine s_goto H at_161 (pc' := 165) (by decide) ?_
              refine s_lcmp H at_165 (pc' := 166) rfl ?_
              refine s_if H at_166 (py := 171) (pc' := 169) l_eq (by decide) rfl (fun c166 => ?_) (fun c166 => ?_)
              · refine s_lload H at_171 rfl (pc' := 173) rfl ?_
                refine s_lconst H at_173 (z := (0 : Int64)) (by decide) (pc' := 174) rfl ?_
                refine s_lcmp H at_174 (pc' := 175) rfl ?_
                refine s_if H at_175 (py := 180) (pc' := 178) l_ne (by decide) rfl (fun c175 => ?_) (fun c175 => ?_)
                · refine s_aload H at_180 rfl rfl (pc' := 182) rfl ?_
                  refine s_lconst H at_182 (z := (1 : Int64)) (by decide) (pc' := 183) rfl ?_
                  refine s_lload H at_183 rfl (pc' := 185) rfl ?_
                  refine Go.perm own_p3 ?_
                  refine s_virtual H (met_q12 H.tb a5 ca6 cs10 (c2 (bk xa) (bk ya)) (S2 (bk xa) (bk ya)) (min (bk xa) (bk ya)) Kcs10 (S2_s _ _) (by have := bk_lt hx; have := bk_lt hy; omega) (fun i hi => q_lo1 hi) q_hi1 (fun i _ => Nat.lt_of_le_of_lt (c2_b _ _ _) (by decide)) (by decide) (by unfold S2; rw [if_neg (by omega), if_neg (by omega)])) at_185 (i := 1) rfl (mem (i := 44) rfl) (mem (i := 45) rfl) (mem (i := 47) rfl) (mem (i := 46) rfl) (mem (i := 3) rfl) (mem (i := 48) rfl) (by decide) pd_9 rfl (rest := []) rfl rfl (by decide) (Nat.le_of_ble_eq_true rfl) (cn' := 6) (sn' := 165894) rfl rfl (by decide) (by decide) (pc' := 188) rfl (fun v0 M0 hq => ?_)
                  obtain ⟨rfl, hm0⟩ := hq
                  subst M0
                  show Go Z k 6 165894 ((ca6, ArL Z cs10) :: (a5, Obj Z "com/example/graupel/graupel/benchmark/CallTimeHistogram" [("com/example/graupel/graupel/benchmark/CallTimeHistogram", "counts", "[J", (.ref ca6)), ("com/example/graupel/graupel/benchmark/CallTimeHistogram", "total", "J", (.long (2 : Nat).toInt64))]) :: (ca4, ArL Z cs9) :: (a3, Obj Z "com/example/graupel/graupel/benchmark/CallTimeHistogram" [("com/example/graupel/graupel/benchmark/CallTimeHistogram", "counts", "[J", (.ref ca4)), ("com/example/graupel/graupel/benchmark/CallTimeHistogram", "total", "J", (.long (1 : Nat).toInt64))]) :: (ca2, ArL Z cs11) :: (a1, Obj Z "com/example/graupel/graupel/benchmark/CallTimeHistogram" [("com/example/graupel/graupel/benchmark/CallTimeHistogram", "counts", "[J", (.ref ca2)), ("com/example/graupel/graupel/benchmark/CallTimeHistogram", "total", "J", (.long (2 : Nat).toInt64))]) :: []) 188 #[.val (.long i0), .second, .val (.long i1), .second, .val (.int i2), .val (.long xa.toInt64), .second, .val (.long ya.toInt64), .second, .val (.int (1 : Int32)), .val (.int (1 : Int32)), .val (.ref a1), .val (.ref a3), .val (.ref a5), .val (.long (2 : Int64)), .second, .unset, .unset, .unset, .unset, .unset, .unset] [(.long (hg (min (bk xa) (bk ya))).toInt64)]
                  refine s_lstore H at_188 (L' := fun z => #[.val (.long i0), .second, .val (.long i1), .second, .val (.int i2), .val (.long xa.toInt64), .second, .val (.long ya.toInt64), .second, .val (.int (1 : Int32)), .val (.int (1 : Int32)), .val (.ref a1), .val (.ref a3), .val (.ref a5), .val (.long (2 : Int64)), .second, .val (.long z), .second, .unset, .unset, .unset, .unset]) (fun _ => rfl) (pc' := 190) rfl (fun z0 hz => ?_)
                  subst z0
                  refine s_aload H at_190 rfl rfl (pc' := 192) rfl ?_
                  refine s_lload H at_192 rfl (pc' := 194) rfl ?_
                  refine s_lload H at_194 rfl (pc' := 196) rfl ?_
                  refine s_virtual H (met_q22 H.tb a5 ca6 cs10 (c2 (bk xa) (bk ya)) (S2 (bk xa) (bk ya)) (max (bk xa) (bk ya)) Kcs10 (S2_s _ _) (by have := bk_lt hx; have := bk_lt hy; omega) (fun i hi => q_lo2 hi) q_hi2 (fun i _ => Nat.lt_of_le_of_lt (c2_b _ _ _) (by decide)) (by decide) (by unfold S2; rw [if_neg (by omega), if_neg (by omega)])) at_196 (i := 1) rfl (mem (i := 44) rfl) (mem (i := 45) rfl) (mem (i := 47) rfl) (mem (i := 46) rfl) (mem (i := 3) rfl) (mem (i := 48) rfl) (by decide) pd_9 rfl (rest := []) rfl rfl (by decide) (Nat.le_of_ble_eq_true rfl) (cn' := 6) (sn' := 165894) rfl rfl (by decide) (by decide) (pc' := 199) rfl (fun v0 M0 hq => ?_)
                  obtain ⟨rfl, hm0⟩ := hq
                  subst M0
                  show Go Z k 6 165894 ((ca6, ArL Z cs10) :: (a5, Obj Z "com/example/graupel/graupel/benchmark/CallTimeHistogram" [("com/example/graupel/graupel/benchmark/CallTimeHistogram", "counts", "[J", (.ref ca6)), ("com/example/graupel/graupel/benchmark/CallTimeHistogram", "total", "J", (.long (2 : Nat).toInt64))]) :: (ca4, ArL Z cs9) :: (a3, Obj Z "com/example/graupel/graupel/benchmark/CallTimeHistogram" [("com/example/graupel/graupel/benchmark/CallTimeHistogram", "counts", "[J", (.ref ca4)), ("com/example/graupel/graupel/benchmark/CallTimeHistogram", "total", "J", (.long (1 : Nat).toInt64))]) :: (ca2, ArL Z cs11) :: (a1, Obj Z "com/example/graupel/graupel/benchmark/CallTimeHistogram" [("com/example/graupel/graupel/benchmark/CallTimeHistogram", "counts", "[J", (.ref ca2)), ("com/example/graupel/graupel/benchmark/CallTimeHistogram", "total", "J", (.long (2 : Nat).toInt64))]) :: []) 199 #[.val (.long i0), .second, .val (.long i1), .second, .val (.int i2), .val (.long xa.toInt64), .second, .val (.long ya.toInt64), .second, .val (.int (1 : Int32)), .val (.int (1 : Int32)), .val (.ref a1), .val (.ref a3), .val (.ref a5), .val (.long (2 : Int64)), .second, .val (.long (hg (min (bk xa) (bk ya))).toInt64), .second, .unset, .unset, .unset, .unset] [(.long (hg (max (bk xa) (bk ya))).toInt64)]
                  refine s_lstore H at_199 (L' := fun z => #[.val (.long i0), .second, .val (.long i1), .second, .val (.int i2), .val (.long xa.toInt64), .second, .val (.long ya.toInt64), .second, .val (.int (1 : Int32)), .val (.int (1 : Int32)), .val (.ref a1), .val (.ref a3), .val (.ref a5), .val (.long (2 : Int64)), .second, .val (.long (hg (min (bk xa) (bk ya))).toInt64), .second, .val (.long z), .second, .unset, .unset]) (fun _ => rfl) (pc' := 201) rfl (fun z0 hz => ?_)
                  subst z0
                  refine s_aload H at_201 rfl rfl (pc' := 203) rfl ?_
                  refine s_lconst H at_203 (z := (1 : Int64)) (by decide) (pc' := 204) rfl ?_
                  refine s_lload H at_204 rfl (pc' := 206) rfl ?_
                  refine Go.perm own_p3 ?_
                  refine s_virtual H (met_q12 H.tb a1 ca2 cs11 (c2 (bk xa) (bk ya)) (S2 (bk xa) (bk ya)) (min (bk xa) (bk ya)) Kcs11 (S2_s _ _) (by have := bk_lt hx; have := bk_lt hy; omega) (fun i hi => q_lo1 hi) q_hi1 (fun i _ => Nat.lt_of_le_of_lt (c2_b _ _ _) (by decide)) (by decide) (by unfold S2; rw [if_neg (by omega), if_neg (by omega)])) at_206 (i := 1) rfl (mem (i := 44) rfl) (mem (i := 45) rfl) (mem (i := 47) rfl) (mem (i := 46) rfl) (mem (i := 3) rfl) (mem (i := 48) rfl) (by decide) pd_9 rfl (rest := []) rfl rfl (by decide) (Nat.le_of_ble_eq_true rfl) (cn' := 6) (sn' := 165894) rfl rfl (by decide) (by decide) (pc' := 209) rfl (fun v0 M0 hq => ?_)
                  obtain ⟨rfl, hm0⟩ := hq
                  subst M0
                  show Go Z k 6 165894 ((ca2, ArL Z cs11) :: (a1, Obj Z "com/example/graupel/graupel/benchmark/CallTimeHistogram" [("com/example/graupel/graupel/benchmark/CallTimeHistogram", "counts", "[J", (.ref ca2)), ("com/example/graupel/graupel/benchmark/CallTimeHistogram", "total", "J", (.long (2 : Nat).toInt64))]) :: (ca6, ArL Z cs10) :: (a5, Obj Z "com/example/graupel/graupel/benchmark/CallTimeHistogram" [("com/example/graupel/graupel/benchmark/CallTimeHistogram", "counts", "[J", (.ref ca6)), ("com/example/graupel/graupel/benchmark/CallTimeHistogram", "total", "J", (.long (2 : Nat).toInt64))]) :: (ca4, ArL Z cs9) :: (a3, Obj Z "com/example/graupel/graupel/benchmark/CallTimeHistogram" [("com/example/graupel/graupel/benchmark/CallTimeHistogram", "counts", "[J", (.ref ca4)), ("com/example/graupel/graupel/benchmark/CallTimeHistogram", "total", "J", (.long (1 : Nat).toInt64))]) :: []) 209 #[.val (.long i0), .second, .val (.long i1), .second, .val (.int i2), .val (.long xa.toInt64), .second, .val (.long ya.toInt64), .second, .val (.int (1 : Int32)), .val (.int (1 : Int32)), .val (.ref a1), .val (.ref a3), .val (.ref a5), .val (.long (2 : Int64)), .second, .val (.long (hg (min (bk xa) (bk ya))).toInt64), .second, .val (.long (hg (max (bk xa) (bk ya))).toInt64), .second, .unset, .unset] [(.long (hg (min (bk xa) (bk ya))).toInt64)]
                  refine s_lload H at_209 rfl (pc' := 211) rfl ?_
                  refine s_lcmp H at_211 (pc' := 212) rfl ?_
                  refine s_if H at_212 (py := 217) (pc' := 215) l_eq (by decide) rfl (fun c212 => ?_) (fun c212 => ?_)
                  · refine s_aload H at_217 rfl rfl (pc' := 219) rfl ?_
                    refine s_lload H at_219 rfl (pc' := 221) rfl ?_
                    refine s_lload H at_221 rfl (pc' := 223) rfl ?_
                    refine s_virtual H (met_q22 H.tb a1 ca2 cs11 (c2 (bk xa) (bk ya)) (S2 (bk xa) (bk ya)) (max (bk xa) (bk ya)) Kcs11 (S2_s _ _) (by have := bk_lt hx; have := bk_lt hy; omega) (fun i hi => q_lo2 hi) q_hi2 (fun i _ => Nat.lt_of_le_of_lt (c2_b _ _ _) (by decide)) (by decide) (by unfold S2; rw [if_neg (by omega), if_neg (by omega)])) at_223 (i := 1) rfl (mem (i := 44) rfl) (mem (i := 45) rfl) (mem (i := 47) rfl) (mem (i := 46) rfl) (mem (i := 3) rfl) (mem (i := 48) rfl) (by decide) pd_9 rfl (rest := []) rfl rfl (by decide) (Nat.le_of_ble_eq_true rfl) (cn' := 6) (sn' := 165894) rfl rfl (by decide) (by decide) (pc' := 226) rfl (fun v0 M0 hq => ?_)
                    obtain ⟨rfl, hm0⟩ := hq
                    subst M0
                    show Go Z k 6 165894 ((ca2, ArL Z cs11) :: (a1, Obj Z "com/example/graupel/graupel/benchmark/CallTimeHistogram" [("com/example/graupel/graupel/benchmark/CallTimeHistogram", "counts", "[J", (.ref ca2)), ("com/example/graupel/graupel/benchmark/CallTimeHistogram", "total", "J", (.long (2 : Nat).toInt64))]) :: (ca6, ArL Z cs10) :: (a5, Obj Z "com/example/graupel/graupel/benchmark/CallTimeHistogram" [("com/example/graupel/graupel/benchmark/CallTimeHistogram", "counts", "[J", (.ref ca6)), ("com/example/graupel/graupel/benchmark/CallTimeHistogram", "total", "J", (.long (2 : Nat).toInt64))]) :: (ca4, ArL Z cs9) :: (a3, Obj Z "com/example/graupel/graupel/benchmark/CallTimeHistogram" [("com/example/graupel/graupel/benchmark/CallTimeHistogram", "counts", "[J", (.ref ca4)), ("com/example/graupel/graupel/benchmark/CallTimeHistogram", "total", "J", (.long (1 : Nat).toInt64))]) :: []) 226 #[.val (.long i0), .second, .val (.long i1), .second, .val (.int i2), .val (.long xa.toInt64), .second, .val (.long ya.toInt64), .second, .val (.int (1 : Int32)), .val (.int (1 : Int32)), .val (.ref a1), .val (.ref a3), .val (.ref a5), .val (.long (2 : Int64)), .second, .val (.long (hg (min (bk xa) (bk ya))).toInt64), .second, .val (.long (hg (max (bk xa) (bk ya))).toInt64), .second, .unset, .unset] [(.long (hg (max (bk xa) (bk ya))).toInt64)]
                    refine s_lload H at_226 rfl (pc' := 228) rfl ?_
                    refine s_lcmp H at_228 (pc' := 229) rfl ?_
                    refine s_if H at_229 (py := 234) (pc' := 232) l_eq (by decide) rfl (fun c229 => ?_) (fun c229 => ?_)
                    · refine s_iload H at_234 rfl (pc' := 236) rfl ?_
                      refine s_if H at_236 (py := 276) (pc' := 239) z_eq (by decide) rfl (fun c236 => ?_) (fun c236 => ?_)
                      · exact absurd c236 (by decide)
                      · refine s_iload H at_239 rfl (pc' := 241) rfl ?_
                        refine s_if H at_241 (py := 252) (pc' := 244) z_eq (by decide) rfl (fun c241 => ?_) (fun c241 => ?_)
                        · exact absurd c241 (by decide)
                        · refine s_lload H at_244 rfl (pc' := 246) rfl ?_
                          refine s_lload H at_246 rfl (pc' := 248) rfl ?_
                          refine s_lcmp H at_248 (pc' := 249) rfl ?_
                          refine s_if H at_249 (py := 257) (pc' := 252) l_lt (by decide) rfl (fun c249 => ?_) (fun c249 => ?_)
                          · refine s_lload H at_257 rfl (pc' := 259) rfl ?_
                            refine s_lstore H at_259 (L' := fun z => #[.val (.long i0), .second, .val (.long i1), .second, .val (.int i2), .val (.long xa.toInt64), .second, .val (.long ya.toInt64), .second, .val (.int (1 : Int32)), .val (.int (1 : Int32)), .val (.ref a1), .val (.ref a3), .val (.ref a5), .val (.long (2 : Int64)), .second, .val (.long (hg (min (bk xa) (bk ya))).toInt64), .second, .val (.long (hg (max (bk xa) (bk ya))).toInt64), .second, .val (.long z), .second]) (fun _ => rfl) (pc' := 261) rfl (fun z0 hz => ?_)
                            subst z0
                            refine s_aload H at_261 rfl rfl (pc' := 263) rfl ?_
                            refine s_lconst H at_263 (z := (1 : Int64)) (by decide) (pc' := 264) rfl ?_
                            refine s_lconst H at_264 (z := (1 : Int64)) (by decide) (pc' := 265) rfl ?_
                            refine Go.perm own_p3 ?_
                            refine s_virtual H (met_q11 H.tb a3 ca4 cs9 (c1 (bk ya)) (S1 (bk ya)) (bk ya) Kcs9 (S1_s _) (bk_lt hy) (fun i hi => by unfold S1 c1; rw [if_neg (by omega), if_neg (by omega)]; omega) (by unfold S1 c1; rw [if_pos rfl]; omega) (fun i _ => Nat.lt_of_le_of_lt (c1_b _ _) (by decide)) (by decide) (by unfold S1; rw [if_neg (by omega)])) at_265 (i := 1) rfl (mem (i := 44) rfl) (mem (i := 45) rfl) (mem (i := 47) rfl) (mem (i := 46) rfl) (mem (i := 3) rfl) (mem (i := 48) rfl) (by decide) pd_9 rfl (rest := []) rfl rfl (by decide) (Nat.le_of_ble_eq_true rfl) (cn' := 6) (sn' := 165894) rfl rfl (by decide) (by decide) (pc' := 268) rfl (fun v0 M0 hq => ?_)
                            obtain ⟨rfl, hm0⟩ := hq
                            subst M0
                            show Go Z k 6 165894 ((ca4, ArL Z cs9) :: (a3, Obj Z "com/example/graupel/graupel/benchmark/CallTimeHistogram" [("com/example/graupel/graupel/benchmark/CallTimeHistogram", "counts", "[J", (.ref ca4)), ("com/example/graupel/graupel/benchmark/CallTimeHistogram", "total", "J", (.long (1 : Nat).toInt64))]) :: (ca2, ArL Z cs11) :: (a1, Obj Z "com/example/graupel/graupel/benchmark/CallTimeHistogram" [("com/example/graupel/graupel/benchmark/CallTimeHistogram", "counts", "[J", (.ref ca2)), ("com/example/graupel/graupel/benchmark/CallTimeHistogram", "total", "J", (.long (2 : Nat).toInt64))]) :: (ca6, ArL Z cs10) :: (a5, Obj Z "com/example/graupel/graupel/benchmark/CallTimeHistogram" [("com/example/graupel/graupel/benchmark/CallTimeHistogram", "counts", "[J", (.ref ca6)), ("com/example/graupel/graupel/benchmark/CallTimeHistogram", "total", "J", (.long (2 : Nat).toInt64))]) :: []) 268 #[.val (.long i0), .second, .val (.long i1), .second, .val (.int i2), .val (.long xa.toInt64), .second, .val (.long ya.toInt64), .second, .val (.int (1 : Int32)), .val (.int (1 : Int32)), .val (.ref a1), .val (.ref a3), .val (.ref a5), .val (.long (2 : Int64)), .second, .val (.long (hg (min (bk xa) (bk ya))).toInt64), .second, .val (.long (hg (max (bk xa) (bk ya))).toInt64), .second, .val (.long (hg (min (bk xa) (bk ya))).toInt64), .second] [(.long (hg (bk ya)).toInt64)]
                            refine s_lload H at_268 rfl (pc' := 270) rfl ?_
                            refine s_lcmp H at_270 (pc' := 271) rfl ?_
                            refine s_if H at_271 (py := 276) (pc' := 274) l_eq (by decide) rfl (fun c271 => ?_) (fun c271 => ?_)
                            · refine s_iconst H at_276 (z := (1 : Int32)) (by decide) (pc' := 277) rfl ?_
                              exact s_iret H at_277 rfl (by simp) (by decide) (by decide) (rfl)
                            · refine s_iconst H at_274 (z := (0 : Int32)) (by decide) (pc' := 275) rfl ?_
                              exfalso
                              rw [ll_lt hy hx] at c249
                              exact c271 (by rw [show min (bk xa) (bk ya) = bk ya from by have := bk_mono (m := ya) (n := xa) (by omega); omega])
                          · refine s_lload H at_252 rfl (pc' := 254) rfl ?_
                            refine s_goto H at_254 (pc' := 259) (by decide) ?_
                            refine s_lstore H at_259 (L' := fun z => #[.val (.long i0), .second, .val (.long i1), .second, .val (.int i2), .val (.long xa.toInt64), .second, .val (.long ya.toInt64), .second, .val (.int (1 : Int32)), .val (.int (1 : Int32)), .val (.ref a1), .val (.ref a3), .val (.ref a5), .val (.long (2 : Int64)), .second, .val (.long (hg (min (bk xa) (bk ya))).toInt64), .second, .val (.long (hg (max (bk xa) (bk ya))).toInt64), .second, .val (.long z), .second]) (fun _ => rfl) (pc' := 261) rfl (fun z0 hz => ?_)
                            subst z0
                            refine s_aload H at_261 rfl rfl (pc' := 263) rfl ?_
                            refine s_lconst H at_263 (z := (1 : Int64)) (by decide) (pc' := 264) rfl ?_
                            refine s_lconst H at_264 (z := (1 : Int64)) (by decide) (pc' := 265) rfl ?_
                            refine Go.perm own_p3 ?_
                            refine s_virtual H (met_q11 H.tb a3 ca4 cs9 (c1 (bk ya)) (S1 (bk ya)) (bk ya) Kcs9 (S1_s _) (bk_lt hy) (fun i hi => by unfold S1 c1; rw [if_neg (by omega), if_neg (by omega)]; omega) (by unfold S1 c1; rw [if_pos rfl]; omega) (fun i _ => Nat.lt_of_le_of_lt (c1_b _ _) (by decide)) (by decide) (by unfold S1; rw [if_neg (by omega)])) at_265 (i := 1) rfl (mem (i := 44) rfl) (mem (i := 45) rfl) (mem (i := 47) rfl) (mem (i := 46) rfl) (mem (i := 3) rfl) (mem (i := 48) rfl) (by decide) pd_9 rfl (rest := []) rfl rfl (by decide) (Nat.le_of_ble_eq_true rfl) (cn' := 6) (sn' := 165894) rfl rfl (by decide) (by decide) (pc' := 268) rfl (fun v0 M0 hq => ?_)
                            obtain ⟨rfl, hm0⟩ := hq
                            subst M0
                            show Go Z k 6 165894 ((ca4, ArL Z cs9) :: (a3, Obj Z "com/example/graupel/graupel/benchmark/CallTimeHistogram" [("com/example/graupel/graupel/benchmark/CallTimeHistogram", "counts", "[J", (.ref ca4)), ("com/example/graupel/graupel/benchmark/CallTimeHistogram", "total", "J", (.long (1 : Nat).toInt64))]) :: (ca2, ArL Z cs11) :: (a1, Obj Z "com/example/graupel/graupel/benchmark/CallTimeHistogram" [("com/example/graupel/graupel/benchmark/CallTimeHistogram", "counts", "[J", (.ref ca2)), ("com/example/graupel/graupel/benchmark/CallTimeHistogram", "total", "J", (.long (2 : Nat).toInt64))]) :: (ca6, ArL Z cs10) :: (a5, Obj Z "com/example/graupel/graupel/benchmark/CallTimeHistogram" [("com/example/graupel/graupel/benchmark/CallTimeHistogram", "counts", "[J", (.ref ca6)), ("com/example/graupel/graupel/benchmark/CallTimeHistogram", "total", "J", (.long (2 : Nat).toInt64))]) :: []) 268 #[.val (.long i0), .second, .val (.long i1), .second, .val (.int i2), .val (.long xa.toInt64), .second, .val (.long ya.toInt64), .second, .val (.int (1 : Int32)), .val (.int (1 : Int32)), .val (.ref a1), .val (.ref a3), .val (.ref a5), .val (.long (2 : Int64)), .second, .val (.long (hg (min (bk xa) (bk ya))).toInt64), .second, .val (.long (hg (max (bk xa) (bk ya))).toInt64), .second, .val (.long (hg (max (bk xa) (bk ya))).toInt64), .second] [(.long (hg (bk ya)).toInt64)]
                            refine s_lload H at_268 rfl (pc' := 270) rfl ?_
                            refine s_lcmp H at_270 (pc' := 271) rfl ?_
                            refine s_if H at_271 (py := 276) (pc' := 274) l_eq (by decide) rfl (fun c271 => ?_) (fun c271 => ?_)
                            · refine s_iconst H at_276 (z := (1 : Int32)) (by decide) (pc' := 277) rfl ?_
                              exact s_iret H at_277 rfl (by simp) (by decide) (by decide) (rfl)
                            · refine s_iconst H at_274 (z := (0 : Int32)) (by decide) (pc' := 275) rfl ?_
                              exfalso
                              rw [ll_lt hy hx] at c249
                              exact c271 (by rw [show max (bk xa) (bk ya) = bk ya from by have := bk_mono (m := xa) (n := ya) (by omega); omega])
                    · exact absurd rfl c229
                  · exact absurd rfl c212
                · exact absurd c175 (by decide)
              · exact absurd c166 (by decide)
          · exact absurd c145 (by decide)
set_option maxRecDepth 65536 in
set_option maxHeartbeats 40000000 in
theorem s0 {Z : State} {k : Cx} {i0 i1 : Int64} {i2 : Int32} (H : Ok Z k room_1 (LQ) x code maxLocals ret)  : Go Z k 0 0 ([] : Hp) 0 #[.val (.long i0), .second, .val (.long i1), .second, .val (.int i2), .unset, .unset, .unset, .unset, .unset, .unset, .unset, .unset, .unset, .unset, .unset, .unset, .unset, .unset, .unset, .unset, .unset] [] := by
  refine s_lloadn H at_0 rfl (pc' := 1) rfl ?_
  refine s_ldc2 H at_1 (mem (i := 0) rfl) (pc' := 4) rfl ?_
  refine s_land H at_4 (pc' := 5) rfl ?_
  refine s_lstore H at_5 (L' := fun z => #[.val (.long i0), .second, .val (.long i1), .second, .val (.int i2), .val (.long z), .second, .unset, .unset, .unset, .unset, .unset, .unset, .unset, .unset, .unset, .unset, .unset, .unset, .unset, .unset, .unset]) (fun _ => rfl) (pc' := 7) rfl (fun xx h_xx => ?_)
  refine s_lloadn H at_7 rfl (pc' := 8) rfl ?_
  refine s_ldc2 H at_8 (mem (i := 0) rfl) (pc' := 11) rfl ?_
  refine s_land H at_11 (pc' := 12) rfl ?_
  refine s_lstore H at_12 (L' := fun z => #[.val (.long i0), .second, .val (.long i1), .second, .val (.int i2), .val (.long xx), .second, .val (.long z), .second, .unset, .unset, .unset, .unset, .unset, .unset, .unset, .unset, .unset, .unset, .unset, .unset, .unset]) (fun _ => rfl) (pc' := 14) rfl (fun yy h_yy => ?_)
  refine s_iload H at_14 rfl (pc' := 16) rfl ?_
  refine s_iconst H at_16 (z := (1 : Int32)) (by decide) (pc' := 17) rfl ?_
  refine s_iand H at_17 (pc' := 18) rfl ?_
  refine s_if H at_18 (py := 25) (pc' := 21) z_eq (by decide) rfl (fun c18 => ?_) (fun c18 => ?_)
  · refine s_iconst H at_25 (z := (0 : Int32)) (by decide) (pc' := 26) rfl ?_
    refine s_istore H at_26 (L' := fun z => #[.val (.long i0), .second, .val (.long i1), .second, .val (.int i2), .val (.long xx), .second, .val (.long yy), .second, .val (.int z), .unset, .unset, .unset, .unset, .unset, .unset, .unset, .unset, .unset, .unset, .unset, .unset]) (fun _ => rfl) (pc' := 28) rfl (fun z0 hz => ?_)
    subst z0
    refine s_iload H at_28 rfl (pc' := 30) rfl ?_
    refine s_iconst H at_30 (z := (2 : Int32)) (by decide) (pc' := 31) rfl ?_
    refine s_iand H at_31 (pc' := 32) rfl ?_
    refine s_if H at_32 (py := 39) (pc' := 35) z_eq (by decide) rfl (fun c32 => ?_) (fun c32 => ?_)
    · refine s_iconst H at_39 (z := (0 : Int32)) (by decide) (pc' := 40) rfl ?_
      refine s_istore H at_40 (L' := fun z => #[.val (.long i0), .second, .val (.long i1), .second, .val (.int i2), .val (.long xx), .second, .val (.long yy), .second, .val (.int (0 : Int32)), .val (.int z), .unset, .unset, .unset, .unset, .unset, .unset, .unset, .unset, .unset, .unset, .unset]) (fun _ => rfl) (pc' := 42) rfl (fun z0 hz => ?_)
      subst z0
      have nxx : 0 ≤ xx.toInt := by rw [h_xx, c_maskL i0 9223372036854775807 63 (by decide) (by decide)]; exact Int.emod_nonneg _ (by decide)
      have rxx := rng64 xx
      have txx : xx = xx.toInt.toNat.toInt64 := by apply Int64.toInt_inj.mp; rw [ll_nat (by omega)]; omega
      have nyy : 0 ≤ yy.toInt := by rw [h_yy, c_maskL i1 9223372036854775807 63 (by decide) (by decide)]; exact Int.emod_nonneg _ (by decide)
      have ryy := rng64 yy
      have tyy : yy = yy.toInt.toNat.toInt64 := by apply Int64.toInt_inj.mp; rw [ll_nat (by omega)]; omega
      rw [txx, tyy]
      exact s42_00 _ _ H (by omega) (by omega)
    · refine s_iconst H at_35 (z := (1 : Int32)) (by decide) (pc' := 36) rfl ?_
      refine s_goto H at_36 (pc' := 40) (by decide) ?_
      refine s_istore H at_40 (L' := fun z => #[.val (.long i0), .second, .val (.long i1), .second, .val (.int i2), .val (.long xx), .second, .val (.long yy), .second, .val (.int (0 : Int32)), .val (.int z), .unset, .unset, .unset, .unset, .unset, .unset, .unset, .unset, .unset, .unset, .unset]) (fun _ => rfl) (pc' := 42) rfl (fun z0 hz => ?_)
      subst z0
      have nxx : 0 ≤ xx.toInt := by rw [h_xx, c_maskL i0 9223372036854775807 63 (by decide) (by decide)]; exact Int.emod_nonneg _ (by decide)
      have rxx := rng64 xx
      have txx : xx = xx.toInt.toNat.toInt64 := by apply Int64.toInt_inj.mp; rw [ll_nat (by omega)]; omega
      have nyy : 0 ≤ yy.toInt := by rw [h_yy, c_maskL i1 9223372036854775807 63 (by decide) (by decide)]; exact Int.emod_nonneg _ (by decide)
      have ryy := rng64 yy
      have tyy : yy = yy.toInt.toNat.toInt64 := by apply Int64.toInt_inj.mp; rw [ll_nat (by omega)]; omega
      rw [txx, tyy]
      exact s42_01 _ _ H (by omega) (by omega)
  · refine s_iconst H at_21 (z := (1 : Int32)) (by decide) (pc' := 22) rfl ?_
    refine s_goto H at_22 (pc' := 26) (by decide) ?_
    refine s_istore H at_26 (L' := fun z => #[.val (.long i0), .second, .val (.long i1), .second, .val (.int i2), .val (.long xx), .second, .val (.long yy), .second, .val (.int z), .unset, .unset, .unset, .unset, .unset, .unset, .unset, .unset, .unset, .unset, .unset, .unset]) (fun _ => rfl) (pc' := 28) rfl (fun z0 hz => ?_)
    subst z0
    refine s_iload H at_28 rfl (pc' := 30) rfl ?_
    refine s_iconst H at_30 (z := (2 : Int32)) (by decide) (pc' := 31) rfl ?_
    refine s_iand H at_31 (pc' := 32) rfl ?_
    refine s_if H at_32 (py := 39) (pc' := 35) z_eq (by decide) rfl (fun c32 => ?_) (fun c32 => ?_)
    · refine s_iconst H at_39 (z := (0 : Int32)) (by decide) (pc' := 40) rfl ?_
      refine s_istore H at_40 (L' := fun z => #[.val (.long i0), .second, .val (.long i1), .second, .val (.int i2), .val (.long xx), .second, .val (.long yy), .second, .val (.int (1 : Int32)), .val (.int z), .unset, .unset, .unset, .unset, .unset, .unset, .unset, .unset, .unset, .unset, .unset]) (fun _ => rfl) (pc' := 42) rfl (fun z0 hz => ?_)
      subst z0
      have nxx : 0 ≤ xx.toInt := by rw [h_xx, c_maskL i0 9223372036854775807 63 (by decide) (by decide)]; exact Int.emod_nonneg _ (by decide)
      have rxx := rng64 xx
      have txx : xx = xx.toInt.toNat.toInt64 := by apply Int64.toInt_inj.mp; rw [ll_nat (by omega)]; omega
      have nyy : 0 ≤ yy.toInt := by rw [h_yy, c_maskL i1 9223372036854775807 63 (by decide) (by decide)]; exact Int.emod_nonneg _ (by decide)
      have ryy := rng64 yy
      have tyy : yy = yy.toInt.toNat.toInt64 := by apply Int64.toInt_inj.mp; rw [ll_nat (by omega)]; omega
      rw [txx, tyy]
      exact s42_10 _ _ H (by omega) (by omega)
    · refine s_iconst H at_35 (z := (1 : Int32)) (by decide) (pc' := 36) rfl ?_
      refine s_goto H at_36 (pc' := 40) (by decide) ?_
      refine s_istore H at_40 (L' := fun z => #[.val (.long i0), .second, .val (.long i1), .second, .val (.int i2), .val (.long xx), .second, .val (.long yy), .second, .val (.int (1 : Int32)), .val (.int z), .unset, .unset, .unset, .unset, .unset, .unset, .unset, .unset, .unset, .unset, .unset]) (fun _ => rfl) (pc' := 42) rfl (fun z0 hz => ?_)
      subst z0
      have nxx : 0 ≤ xx.toInt := by rw [h_xx, c_maskL i0 9223372036854775807 63 (by decide) (by decide)]; exact Int.emod_nonneg _ (by decide)
      have rxx := rng64 xx
      have txx : xx = xx.toInt.toNat.toInt64 := by apply Int64.toInt_inj.mp; rw [ll_nat (by omega)]; omega
      have nyy : 0 ≤ yy.toInt := by rw [h_yy, c_maskL i1 9223372036854775807 63 (by decide) (by decide)]; exact Int.emod_nonneg _ (by decide)
      have ryy := rng64 yy
      have tyy : yy = yy.toInt.toNat.toInt64 := by apply Int64.toInt_inj.mp; rw [ll_nat (by omega)]; omega
      rw [txx, tyy]
      exact s42_11 _ _ H (by omega) (by omega)
theorem pl_0 : plainFor x = true := plainFor_of_name (by first | (simp [plainName, overriddenIn, x]; done) | decide +kernel)
set_option maxRecDepth 65536 in
set_option maxHeartbeats 40000000 in
theorem met_law {Z : State} (HT : Tb Z) (l : Launch) (ws : List Jvm.Cond) (i0 : Int64) (i1 : Int64) (i2 : Int32) (h0 : Heap) (hO : Own Z h0 []) :
    MetFree l x (head1 (Jvm.Cond.code x code maxLocals ret :: ws) room_1) (fun a U => a = [(.long i0), (.long i1), (.int i2)].toArray ∧ Z.Warmed39 U.vm ∧ U.heap = h0) (fun _ _ _ _ _ => True) (fun _ U o U' => ∃ v L, o = .returned v ∧ (Fr Z.heap.size L ∧ ∃ M, LQ v M ∧ Own Z U'.heap M) ∧ FrameEnd U o U' L room_1.cells room_1.slots) :=
  met_of l HT pl_0 (Ls := #[.val (.long i0), .second, .val (.long i1), .second, .val (.int i2), .unset, .unset, .unset, .unset, .unset, .unset, .unset, .unset, .unset, .unset, .unset, .unset, .unset, .unset, .unset, .unset, .unset]) (fun m => by first | (simp [entryFrame, mkF, argsToLocals, Value.category, maxLocals]; done) | rfl) hO (fun k H => s0 H)
set_option maxRecDepth 65536 in
set_option maxHeartbeats 40000000 in
theorem comes_1 {Post : Tables → Env → Array Value → State → Outcome → State → Prop} (hpost : ∀ tb e args s v u, (limb_1_1.after args s (.returned v) u = true ∧ limb_1_2.after args s (.returned v) u = true ∧ True) → FrameEnd s (.returned v) u (Jvm.fieldLocs frame_1_writes args s ++ Jvm.arrayLocs frame_1_arrays args s ++ Jvm.staticLocs frame_1_statics s) 24 199104 → Post tb e args s (.returned v) u) :
    ArmFor flags0 classFile x code maxLocals ret World_1 tables_1 room_1 Calls_1 rest_1 Pre_1 Post := by
  intro l hfl _ _ p e ha hc hk s m args below hf hA hF happ hP
  obtain ⟨hcalls, hrest, hpre⟩ := hP
  obtain ⟨-, -, -, hnamed, -, -, -, hat⟩ := (Spec.applies_iff hf).mp happ
  obtain ⟨hg, hn⟩ := and_e (Cond.before_iff.mp (show (Jvm.Cond.and given_1 narrow_1).before args s = true from hpre))
  obtain ⟨hcnt, hg0⟩ := and_e hg
  obtain ⟨hv0, hg1⟩ := and_e hg0
  obtain ⟨hv1, hg2⟩ := and_e hg1
  obtain ⟨w0, w1, w2, rfl⟩ : ∃ w0 w1 w2 : Value, args = #[w0, w1, w2] := by
    have hs : args.size = 3 := by simpa [Cond.value, given_1] using hcnt
    obtain ⟨L⟩ := args
    match L, hs with
    | [w0, w1, w2], _ => exact ⟨w0, w1, w2, rfl⟩
  have hw := fun d (hd : d ∈ tables_1) => atoms_spec (ws := Jvm.Cond.code x code maxLocals ret :: tables_1) hat d (List.mem_cons_of_mem _ hd)
  obtain ⟨i0, ei0⟩ := isL_v hv0
  obtain rfl : w0 = (.long i0) := Option.some.inj ei0
  obtain ⟨i1, ei1⟩ := isL_v hv1
  obtain rfl : w1 = (.long i1) := Option.some.inj ei1
  obtain ⟨i2, ei2⟩ := is_v hg2
  obtain rfl : w2 = (.int i2) := Option.some.inj ei2
  have hO : Own s s.heap [] := ⟨⟨Nat.le_refl _, fun _ _ q => q⟩, fun i x hx => (by cases hx), fun i j x y hx => (by cases hx)⟩
  obtain ⟨n, o, h1, h2, h3, v, L, rfl, ⟨N, M, hv, -⟩, hq⟩ := met_law (Z := s) ⟨_, hw⟩ l tables_1 i0 i1 i2 s.heap hO p e ha hc hk s m _ below hf ((Spec.applies_iff_loose hf).mp happ).1 ⟨rfl, State.Warmed39.refl s, rfl⟩ trivial
  obtain rfl : v = some (.int 1) := hv
  exact ⟨n, _, h1, h2, h3, hpost _ _ _ _ _ _ ⟨Cond.after_iff.mpr rfl, Cond.after_iff.mpr (eq_i res_at (Term.int_eval (1)) rfl), trivial⟩ ⟨hq.1, hq.2.1, (hq.2.2.sift fun y hy => Or.inr (N y hy)).mono (by decide) (by decide)⟩⟩
theorem main_1_1 : Claimed_1_1 := comes_1 fun _ _ _ _ _ _ h hF => ⟨h.1, hF⟩
theorem main_1_2 : Claimed_1_2 := comes_1 fun _ _ _ _ _ _ h hF => ⟨h.2.1, hF⟩
end Jvm.Pilot.@@N@@
namespace Jvm.Pilot.@@N@@
open Jvm Jvm.ClassFile Sem Op Lib Jvm.Free Jvm.Stand Jvm.Pilot.@@N@@.Jvm.D
/-! MADE BY PROGRAM (witnessworld.py) out of the Statement's table words and the real class files: 18 classes; the members and pool entries that the words name. The judged class is class 1, her method 1. -/
namespace start1
open Jvm.ClassFile
def u (s : String) : CpInfo := .utf8 (stringToUtf16 s)
/-- a pool by its gaps: so many unusable entries, then the entry; so many at the end -/
def gap : Nat → List CpInfo → List CpInfo
  | 0, r => r
  | n + 1, r => .unusable :: gap n r
def poolList (es : List (Nat × CpInfo)) (last : Nat) : List CpInfo := es.foldr (fun e r => gap e.1 (e.2 :: r)) (gap last [])
def pool (es : List (Nat × CpInfo)) (last : Nat) : Array CpInfo := ⟨poolList es last⟩
def fileOf (pool : Array CpInfo) (this : Nat) (attrs : Array Attribute := #[]) (ms : Array MethodInfo := #[]) (fl : Nat := 33) (sup : Nat := 0) (ifs : Array Nat := #[]) (fds : Array FieldInfo := #[]) : ClassFile where
  minorVersion := 0
  majorVersion := 65
  constantPool := pool
  accessFlags := fl
  thisClass := this
  superClass := sup
  interfaces := ifs
  fields := fds
  methods := ms
  attributes := attrs
def plain (name : String) (sup : Option ClassId) : Class where
  name := name
  kind := .ordinary
  loader := none
  accessFlags := 33
  super := sup
  interfaces := #[]
  cf := none
  fields := #[]
  methods := #[]
  instanceTypes := #[]
  staticTypes := #[]
  resolved := #[]
  callSites := []
  init := .initialized
  statics := none
  mirror := none

def pool0 : Array CpInfo := pool [(5, u "<init>"), (0, u "()V"), (1, .class_ 10), (1, u "java/lang/Object")] 113

def k0c0 : Code := { maxStack := 0, maxLocals := 1, code := object_method_1_code, exceptionTable := #[], attributes := #[] }
def k0m0 : Method := { name := "<init>", desc := "()V", sig := { parameters := [], returnType := none }, accessFlags := 1, code := some k0c0 }
/-- java/lang/Object -/
def k0 : Class := { plain "java/lang/Object" none with
  accessFlags := 33
  interfaces := #[]
  cf := some (fileOf pool0 8 #[] #[{ accessFlags := 1, nameIndex := 5, descriptorIndex := 6, attributes := #[] }] 33 0 #[] #[])
  fields := #[]
  methods := #[k0m0]
  instanceTypes := #[]
  staticTypes := #[]
  resolved := Array.replicate 124 none
  statics := none }

def pool1 : Array CpInfo := pool [(2, .class_ 4), (0, .nameAndType 5 6), (0, u "java/lang/Object"), (0, u "<init>"), (0, u "()V"), (2, .long 9223372036854775807), (1, .class_ 12), (0, u "com/example/graupel/graupel/benchmark/CallTimeHistogram"), (0, .methodref 11 3), (0, .methodref 11 15), (0, .nameAndType 16 17), (0, u "record"), (0, u "(J)V"), (0, .methodref 11 19), (0, .nameAndType 20 21), (0, u "add"), (0, u "(Lcom/example/graupel/graupel/benchmark/CallTimeHistogram;)V"), (0, .methodref 11 23), (0, .nameAndType 24 25), (0, u "count"), (0, u "()J"), (0, .methodref 11 27), (0, .nameAndType 28 29), (0, u "quantile"), (0, u "(JJ)J"), (0, .class_ 31), (0, u "com/example/graupel/graupel/benchmark/CallTimeHistogramAddPinLaw"), (2, u "law"), (0, u "(JJI)Z")] 3

def k1m0 : Method := { name := "<init>", desc := "()V", sig := { parameters := [], returnType := none }, accessFlags := 1, code := none }
def k1c1 : Code := { maxStack := 5, maxLocals := 22, code := code, exceptionTable := #[], attributes := #[] }
def k1m1 : Method := { name := "law", desc := "(JJI)Z", sig := { parameters := [.long, .long, .int], returnType := some .boolean }, accessFlags := 9, code := some k1c1 }
/-- com/example/graupel/graupel/benchmark/CallTimeHistogramAddPinLaw -/
def k1 : Class := { plain "com/example/graupel/graupel/benchmark/CallTimeHistogramAddPinLaw" (some 0) with
  accessFlags := 49
  interfaces := #[]
  cf := some (fileOf pool1 30 #[] #[{ accessFlags := 1, nameIndex := 5, descriptorIndex := 6, attributes := #[] }, { accessFlags := 9, nameIndex := 34, descriptorIndex := 35, attributes := #[] }] 49 2 #[] #[])
  fields := #[]
  methods := #[k1m0, k1m1]
  instanceTypes := #[]
  staticTypes := #[]
  resolved := Array.replicate 39 none
  statics := none }

def pool2 : Array CpInfo := pool [(1, .class_ 2), (0, u "java/io/Serializable"), (0, .class_ 4), (0, u "java/lang/Object")] 2

/-- java/io/Serializable -/
def k2 : Class := { plain "java/io/Serializable" (some 0) with
  accessFlags := 1537
  interfaces := #[]
  cf := some (fileOf pool2 1 #[] #[] 1537 3 #[] #[])
  fields := #[]
  methods := #[]
  instanceTypes := #[]
  staticTypes := #[]
  resolved := Array.replicate 7 none
  statics := none }

def pool3 : Array CpInfo := pool [(1, .class_ 2), (0, u "com/example/graupel/graupel/benchmark/CallTimeHistogram"), (0, .methodref 4 5), (0, .class_ 6), (0, .nameAndType 7 8), (0, u "java/lang/Object"), (0, u "<init>"), (0, u "()V"), (0, .class_ 10), (0, u "java/lang/Long"), (0, .long 9223372036854775807), (1, .methodref 1 14), (0, .nameAndType 15 16), (0, u "bucket"), (0, u "(J)I"), (0, .fieldref 1 18), (0, .nameAndType 19 20), (0, u "counts"), (0, u "[J"), (9, .fieldref 1 31), (0, .nameAndType 32 33), (0, u "total"), (0, u "J"), (8, .methodref 43 44), (0, .class_ 45), (0, .nameAndType 46 47), (0, u "java/lang/Math"), (0, u "multiplyExact"), (0, u "(JJ)J"), (0, .methodref 1 49), (0, .nameAndType 50 51), (0, u "highest"), (0, u "(I)J"), (0, .long 2048), (1, .methodref 9 55), (0, .nameAndType 56 16), (0, u "numberOfLeadingZeros"), (0, .class_ 58), (0, u "java/io/Serializable"), (0, u "serialVersionUID"), (3, u "SUB_BITS"), (0, u "I"), (1, u "EXACT"), (3, u "record"), (0, u "(J)V"), (1, u "add"), (0, u "(Lcom/example/graupel/graupel/benchmark/CallTimeHistogram;)V"), (0, u "count"), (0, u "()J"), (0, u "quantile")] 19

def k3c0 : Code := { maxStack := 3, maxLocals := 1, code := prog_13_method_1_code, exceptionTable := #[], attributes := #[] }
def k3m0 : Method := { name := "<init>", desc := "()V", sig := { parameters := [], returnType := none }, accessFlags := 0, code := some k3c0 }
def k3c1 : Code := { maxStack := 6, maxLocals := 3, code := prog_13_method_2_code, exceptionTable := #[], attributes := #[] }
def k3m1 : Method := { name := "record", desc := "(J)V", sig := { parameters := [.long], returnType := none }, accessFlags := 0, code := some k3c1 }
def k3c2 : Code := { maxStack := 6, maxLocals := 3, code := prog_13_method_3_code, exceptionTable := #[], attributes := #[] }
def k3m2 : Method := { name := "add", desc := "(Lcom/example/graupel/graupel/benchmark/CallTimeHistogram;)V", sig := { parameters := [(.object "com/example/graupel/graupel/benchmark/CallTimeHistogram")], returnType := none }, accessFlags := 0, code := some k3c2 }
def k3c3 : Code := { maxStack := 2, maxLocals := 1, code := prog_13_method_4_code, exceptionTable := #[], attributes := #[] }
def k3m3 : Method := { name := "count", desc := "()J", sig := { parameters := [], returnType := some .long }, accessFlags := 0, code := some k3c3 }
def k3c4 : Code := { maxStack := 6, maxLocals := 10, code := prog_13_method_5_code, exceptionTable := #[], attributes := #[] }
def k3m4 : Method := { name := "quantile", desc := "(JJ)J", sig := { parameters := [.long, .long], returnType := some .long }, accessFlags := 0, code := some k3c4 }
def k3c5 : Code := { maxStack := 4, maxLocals := 3, code := prog_13_method_6_code, exceptionTable := #[], attributes := #[] }
def k3m5 : Method := { name := "bucket", desc := "(J)I", sig := { parameters := [.long], returnType := some .int }, accessFlags := 10, code := some k3c5 }
def k3c6 : Code := { maxStack := 5, maxLocals := 4, code := prog_13_method_7_code, exceptionTable := #[], attributes := #[] }
def k3m6 : Method := { name := "highest", desc := "(I)J", sig := { parameters := [.int], returnType := some .long }, accessFlags := 10, code := some k3c6 }
/-- com/example/graupel/graupel/benchmark/CallTimeHistogram -/
def k3 : Class := { plain "com/example/graupel/graupel/benchmark/CallTimeHistogram" (some 0) with
  accessFlags := 48
  interfaces := #[2]
  cf := some (fileOf pool3 1 #[] #[{ accessFlags := 0, nameIndex := 7, descriptorIndex := 8, attributes := #[] }, { accessFlags := 0, nameIndex := 70, descriptorIndex := 71, attributes := #[] }, { accessFlags := 0, nameIndex := 73, descriptorIndex := 74, attributes := #[] }, { accessFlags := 0, nameIndex := 75, descriptorIndex := 76, attributes := #[] }, { accessFlags := 0, nameIndex := 77, descriptorIndex := 47, attributes := #[] }, { accessFlags := 10, nameIndex := 15, descriptorIndex := 16, attributes := #[] }, { accessFlags := 10, nameIndex := 50, descriptorIndex := 51, attributes := #[] }] 48 4 #[57] #[{ accessFlags := 26, nameIndex := 59, descriptorIndex := 33, attributes := #[] }, { accessFlags := 26, nameIndex := 63, descriptorIndex := 64, attributes := #[] }, { accessFlags := 24, nameIndex := 66, descriptorIndex := 64, attributes := #[] }, { accessFlags := 18, nameIndex := 19, descriptorIndex := 20, attributes := #[] }, { accessFlags := 2, nameIndex := 32, descriptorIndex := 33, attributes := #[] }])
  fields := #[{ name := "serialVersionUID", type := .long, accessFlags := 26, slot := 0, constantValue := 0 }, { name := "SUB_BITS", type := .int, accessFlags := 26, slot := 1, constantValue := 0 }, { name := "EXACT", type := .int, accessFlags := 24, slot := 2, constantValue := 0 }, { name := "counts", type := (.array .long), accessFlags := 18, slot := 0, constantValue := 0 }, { name := "total", type := .long, accessFlags := 2, slot := 1, constantValue := 0 }]
  methods := #[k3m0, k3m1, k3m2, k3m3, k3m4, k3m5, k3m6]
  instanceTypes := #[(.array .long), .long]
  staticTypes := #[.long, .int, .int]
  resolved := Array.replicate 97 none
  statics := none }

def pool4 : Array CpInfo := pool [(2, .class_ 4), (1, u "java/lang/Object"), (0, u "<init>"), (0, u "()V"), (1, .class_ 10), (1, u "java/lang/Number"), (2, .class_ 14), (0, u "java/io/Serializable"), (0, u "serialVersionUID"), (0, u "J")] 20

def k4m0 : Method := { name := "<init>", desc := "()V", sig := { parameters := [], returnType := none }, accessFlags := 1, code := none }
/-- java/lang/Number -/
def k4 : Class := { plain "java/lang/Number" (some 0) with
  accessFlags := 1057
  interfaces := #[2]
  cf := some (fileOf pool4 8 #[] #[{ accessFlags := 1, nameIndex := 5, descriptorIndex := 6, attributes := #[] }] 1057 2 #[13] #[{ accessFlags := 26, nameIndex := 15, descriptorIndex := 16, attributes := #[] }])
  fields := #[{ name := "serialVersionUID", type := .long, accessFlags := 26, slot := 0, constantValue := 0 }]
  methods := #[k4m0]
  instanceTypes := #[]
  staticTypes := #[.long]
  resolved := Array.replicate 37 none
  statics := none }

def pool5 : Array CpInfo := pool [(1, .class_ 2), (0, u "java/lang/Comparable"), (0, .class_ 4), (0, u "java/lang/Object")] 7

/-- java/lang/Comparable -/
def k5 : Class := { plain "java/lang/Comparable" (some 0) with
  accessFlags := 1537
  interfaces := #[]
  cf := some (fileOf pool5 1 #[] #[] 1537 3 #[] #[])
  fields := #[]
  methods := #[]
  instanceTypes := #[]
  staticTypes := #[]
  resolved := Array.replicate 12 none
  statics := none }

def pool6 : Array CpInfo := pool [(1, .class_ 2), (0, u "java/lang/constant/Constable"), (0, .class_ 4), (0, u "java/lang/Object")] 6

/-- java/lang/constant/Constable -/
def k6 : Class := { plain "java/lang/constant/Constable" (some 0) with
  accessFlags := 1537
  interfaces := #[]
  cf := some (fileOf pool6 1 #[] #[] 1537 3 #[] #[])
  fields := #[]
  methods := #[]
  instanceTypes := #[]
  staticTypes := #[]
  resolved := Array.replicate 11 none
  statics := none }

def pool7 : Array CpInfo := pool [(1, .class_ 2), (0, u "java/lang/constant/ConstantDesc"), (0, .class_ 4), (0, u "java/lang/Object")] 32

/-- java/lang/constant/ConstantDesc -/
def k7 : Class := { plain "java/lang/constant/ConstantDesc" (some 0) with
  accessFlags := 1537
  interfaces := #[]
  cf := some (fileOf pool7 1 #[] #[] 1537 3 #[] #[])
  fields := #[]
  methods := #[]
  instanceTypes := #[]
  staticTypes := #[]
  resolved := Array.replicate 37 none
  statics := none }

def pool8 : Array CpInfo := pool [(1, .class_ 2), (0, u "java/lang/Long"), (15, .class_ 20), (1, u "java/lang/Integer"), (79, u "numberOfLeadingZeros"), (0, u "(J)I"), (133, .class_ 237), (1, u "java/lang/Long$LongCache"), (33, .class_ 272), (0, u "java/lang/Number"), (2, u "value"), (0, u "J"), (31, .methodref 18 309), (0, .nameAndType 100 310), (0, u "(I)I"), (50, u "TYPE"), (0, u "Ljava/lang/Class;"), (0, .class_ 364), (0, u "java/lang/Comparable"), (0, .class_ 366), (0, u "java/lang/constant/Constable"), (0, .class_ 368), (0, u "java/lang/constant/ConstantDesc"), (0, u "MIN_VALUE"), (1, u "MAX_VALUE"), (4, u "SIZE"), (0, u "I"), (1, u "BYTES"), (1, u "serialVersionUID")] 142

def k8c0 : Code := { maxStack := 3, maxLocals := 3, code := jdk_35_method_48_code, exceptionTable := #[], attributes := #[] }
def k8m0 : Method := { name := "numberOfLeadingZeros", desc := "(J)I", sig := { parameters := [.long], returnType := some .int }, accessFlags := 9, code := some k8c0 }
/-- java/lang/Long -/
def k8 : Class := { plain "java/lang/Long" (some 4) with
  accessFlags := 49
  interfaces := #[5, 6, 7]
  cf := some (fileOf pool8 1 #[.nestMembers #[235]] #[{ accessFlags := 9, nameIndex := 100, descriptorIndex := 101, attributes := #[] }] 49 271 #[363, 365, 367] #[{ accessFlags := 25, nameIndex := 369, descriptorIndex := 276, attributes := #[] }, { accessFlags := 25, nameIndex := 371, descriptorIndex := 276, attributes := #[] }, { accessFlags := 25, nameIndex := 361, descriptorIndex := 362, attributes := #[] }, { accessFlags := 18, nameIndex := 275, descriptorIndex := 276, attributes := #[] }, { accessFlags := 25, nameIndex := 376, descriptorIndex := 377, attributes := #[] }, { accessFlags := 25, nameIndex := 379, descriptorIndex := 377, attributes := #[] }, { accessFlags := 26, nameIndex := 381, descriptorIndex := 276, attributes := #[] }])
  fields := #[{ name := "MIN_VALUE", type := .long, accessFlags := 25, slot := 0, constantValue := 0 }, { name := "MAX_VALUE", type := .long, accessFlags := 25, slot := 1, constantValue := 0 }, { name := "TYPE", type := (.object "java/lang/Class"), accessFlags := 25, slot := 2, constantValue := 0 }, { name := "value", type := .long, accessFlags := 18, slot := 0, constantValue := 0 }, { name := "SIZE", type := .int, accessFlags := 25, slot := 3, constantValue := 0 }, { name := "BYTES", type := .int, accessFlags := 25, slot := 4, constantValue := 0 }, { name := "serialVersionUID", type := .long, accessFlags := 26, slot := 5, constantValue := 0 }]
  methods := #[k8m0]
  instanceTypes := #[.long]
  staticTypes := #[.long, .long, (.object "java/lang/Class"), .int, .int, .long]
  resolved := Array.replicate 524 none
  statics := none }

def pool9 : Array CpInfo := pool [(1, .class_ 2), (0, u "java/lang/Integer"), (16, u "digits"), (0, u "[C"), (32, u "numberOfLeadingZeros"), (0, u "(I)I"), (30, u "DigitOnes"), (0, u "[B"), (2, u "DigitTens"), (99, .class_ 190), (0, u "java/lang/Integer$IntegerCache"), (3, u "I"), (8, .class_ 204), (0, u "java/lang/Number"), (2, u "value"), (56, .integer 65536), (37, u "TYPE"), (0, u "Ljava/lang/Class;"), (0, .class_ 305), (0, u "java/lang/Comparable"), (0, .class_ 307), (0, u "java/lang/constant/Constable"), (0, .class_ 309), (0, u "java/lang/constant/ConstantDesc"), (0, u "MIN_VALUE"), (1, u "MAX_VALUE"), (3, u "SIZE"), (1, u "BYTES"), (1, u "serialVersionUID"), (0, u "J")] 131

def k9c0 : Code := { maxStack := 3, maxLocals := 2, code := jdk_33_method_47_code, exceptionTable := #[], attributes := #[] }
def k9m0 : Method := { name := "numberOfLeadingZeros", desc := "(I)I", sig := { parameters := [.int], returnType := some .int }, accessFlags := 9, code := some k9c0 }
/-- java/lang/Integer -/
def k9 : Class := { plain "java/lang/Integer" (some 4) with
  accessFlags := 49
  interfaces := #[5, 6, 7]
  cf := some (fileOf pool9 1 #[.nestMembers #[189]] #[{ accessFlags := 9, nameIndex := 53, descriptorIndex := 54, attributes := #[] }] 49 203 #[304, 306, 308] #[{ accessFlags := 25, nameIndex := 310, descriptorIndex := 194, attributes := #[] }, { accessFlags := 25, nameIndex := 312, descriptorIndex := 194, attributes := #[] }, { accessFlags := 25, nameIndex := 302, descriptorIndex := 303, attributes := #[] }, { accessFlags := 24, nameIndex := 19, descriptorIndex := 20, attributes := #[] }, { accessFlags := 24, nameIndex := 89, descriptorIndex := 86, attributes := #[] }, { accessFlags := 24, nameIndex := 85, descriptorIndex := 86, attributes := #[] }, { accessFlags := 18, nameIndex := 207, descriptorIndex := 194, attributes := #[] }, { accessFlags := 25, nameIndex := 316, descriptorIndex := 194, attributes := #[] }, { accessFlags := 25, nameIndex := 318, descriptorIndex := 194, attributes := #[] }, { accessFlags := 26, nameIndex := 320, descriptorIndex := 321, attributes := #[] }])
  fields := #[{ name := "MIN_VALUE", type := .int, accessFlags := 25, slot := 0, constantValue := 0 }, { name := "MAX_VALUE", type := .int, accessFlags := 25, slot := 1, constantValue := 0 }, { name := "TYPE", type := (.object "java/lang/Class"), accessFlags := 25, slot := 2, constantValue := 0 }, { name := "digits", type := (.array .char), accessFlags := 24, slot := 3, constantValue := 0 }, { name := "DigitTens", type := (.array .byte), accessFlags := 24, slot := 4, constantValue := 0 }, { name := "DigitOnes", type := (.array .byte), accessFlags := 24, slot := 5, constantValue := 0 }, { name := "value", type := .int, accessFlags := 18, slot := 0, constantValue := 0 }, { name := "SIZE", type := .int, accessFlags := 25, slot := 6, constantValue := 0 }, { name := "BYTES", type := .int, accessFlags := 25, slot := 7, constantValue := 0 }, { name := "serialVersionUID", type := .long, accessFlags := 26, slot := 8, constantValue := 0 }]
  methods := #[k9m0]
  instanceTypes := #[.int]
  staticTypes := #[.int, .int, (.object "java/lang/Class"), (.array .char), (.array .byte), (.array .byte), .int, .int, .long]
  resolved := Array.replicate 453 none
  statics := none }

def pool10 : Array CpInfo := pool [(1, .class_ 2), (0, u "java/lang/Math"), (1, .class_ 6), (1, u "java/lang/Object"), (0, u "<init>"), (0, u "()V"), (89, .class_ 100), (1, u "java/lang/Math$RandomNumberGeneratorHolder"), (19, u "multiplyExact"), (0, u "(JJ)J"), (0, .methodref 1 123), (0, .nameAndType 124 125), (0, u "abs"), (0, u "(J)J"), (46, u "negativeZeroFloatBits"), (0, u "J"), (2, u "negativeZeroDoubleBits"), (68, u "$assertionsDisabled"), (0, u "Z"), (91, u "twoToTheDoubleScaleDown"), (0, u "D"), (4, u "twoToTheDoubleScaleUp"), (9, u "E"), (3, u "PI"), (2, u "TAU"), (2, u "DEGREES_TO_RADIANS"), (0, u "RADIANS_TO_DEGREES")] 94

def k10m0 : Method := { name := "<init>", desc := "()V", sig := { parameters := [], returnType := none }, accessFlags := 2, code := none }
def k10c1 : Code := { maxStack := 4, maxLocals := 10, code := jdk_29_method_30_code, exceptionTable := #[], attributes := #[] }
def k10m1 : Method := { name := "multiplyExact", desc := "(JJ)J", sig := { parameters := [.long, .long], returnType := some .long }, accessFlags := 9, code := some k10c1 }
def k10c2 : Code := { maxStack := 4, maxLocals := 2, code := jdk_29_method_61_code, exceptionTable := #[], attributes := #[] }
def k10m2 : Method := { name := "abs", desc := "(J)J", sig := { parameters := [.long], returnType := some .long }, accessFlags := 9, code := some k10c2 }
/-- java/lang/Math -/
def k10 : Class := { plain "java/lang/Math" (some 0) with
  accessFlags := 49
  interfaces := #[]
  cf := some (fileOf pool10 1 #[.nestMembers #[98]] #[{ accessFlags := 2, nameIndex := 7, descriptorIndex := 8, attributes := #[] }, { accessFlags := 9, nameIndex := 120, descriptorIndex := 121, attributes := #[] }, { accessFlags := 9, nameIndex := 124, descriptorIndex := 125, attributes := #[] }] 49 4 #[] #[{ accessFlags := 25, nameIndex := 354, descriptorIndex := 339, attributes := #[] }, { accessFlags := 25, nameIndex := 358, descriptorIndex := 339, attributes := #[] }, { accessFlags := 25, nameIndex := 361, descriptorIndex := 339, attributes := #[] }, { accessFlags := 26, nameIndex := 364, descriptorIndex := 339, attributes := #[] }, { accessFlags := 26, nameIndex := 365, descriptorIndex := 339, attributes := #[] }, { accessFlags := 26, nameIndex := 172, descriptorIndex := 173, attributes := #[] }, { accessFlags := 26, nameIndex := 176, descriptorIndex := 173, attributes := #[] }, { accessFlags := 8, nameIndex := 344, descriptorIndex := 339, attributes := #[] }, { accessFlags := 8, nameIndex := 338, descriptorIndex := 339, attributes := #[] }, { accessFlags := 4120, nameIndex := 245, descriptorIndex := 246, attributes := #[] }])
  fields := #[{ name := "E", type := .double, accessFlags := 25, slot := 0, constantValue := 0 }, { name := "PI", type := .double, accessFlags := 25, slot := 1, constantValue := 0 }, { name := "TAU", type := .double, accessFlags := 25, slot := 2, constantValue := 0 }, { name := "DEGREES_TO_RADIANS", type := .double, accessFlags := 26, slot := 3, constantValue := 0 }, { name := "RADIANS_TO_DEGREES", type := .double, accessFlags := 26, slot := 4, constantValue := 0 }, { name := "negativeZeroFloatBits", type := .long, accessFlags := 26, slot := 5, constantValue := 0 }, { name := "negativeZeroDoubleBits", type := .long, accessFlags := 26, slot := 6, constantValue := 0 }, { name := "twoToTheDoubleScaleUp", type := .double, accessFlags := 8, slot := 7, constantValue := 0 }, { name := "twoToTheDoubleScaleDown", type := .double, accessFlags := 8, slot := 8, constantValue := 0 }, { name := "$assertionsDisabled", type := .boolean, accessFlags := 4120, slot := 9, constantValue := 0 }]
  methods := #[k10m0, k10m1, k10m2]
  instanceTypes := #[]
  staticTypes := #[.double, .double, .double, .double, .double, .long, .long, .double, .double, .boolean]
  resolved := Array.replicate 460 none
  statics := none }

def pool11 : Array CpInfo := pool [(1, u "java/lang/Cloneable"), (0, .class_ 1), (0, u "java/lang/Object"), (0, .class_ 3)] 3

/-- java/lang/Cloneable -/
def k11 : Class := { plain "java/lang/Cloneable" (some 0) with
  accessFlags := 1537
  interfaces := #[]
  cf := some (fileOf pool11 2 #[] #[] 1537 4 #[] #[])
  fields := #[]
  methods := #[]
  instanceTypes := #[]
  staticTypes := #[]
  resolved := Array.replicate 8 none
  statics := none }

/-- the primitive byte -/
def k12 : Class := { plain "byte" none with kind := .primitive 'B', accessFlags := 0x411 }
/-- [B -/
def k13 : Class := { plain "[B" (some 0) with kind := .array 12 .byte, interfaces := #[11, 2], accessFlags := 1041 }

/-- the primitive int -/
def k14 : Class := { plain "int" none with kind := .primitive 'I', accessFlags := 0x411 }
/-- [I -/
def k15 : Class := { plain "[I" (some 0) with kind := .array 14 .int, interfaces := #[11, 2], accessFlags := 1041 }

/-- the primitive long -/
def k16 : Class := { plain "long" none with kind := .primitive 'J', accessFlags := 0x411 }
/-- [J -/
def k17 : Class := { plain "[J" (some 0) with kind := .array 16 .long, interfaces := #[11, 2], accessFlags := 1041 }

def heap : Heap := #[]
def classes : Array Class := #[k0, k1, k2, k3, k4, k5, k6, k7, k8, k9, k10, k11, k12, k13, k14, k15, k16, k17]
def interned : List (Array UInt16 × Addr) := []
def slotsUsed : Nat := 0
def theMethod : MethodId := ⟨1, 1⟩
def args0 : Array Value := #[.long 1, .long 7, .int 3]
def aboutOver (below : List Frame) : State where
  vm := { classes := classes, interned := interned.toArray }
  heap := heap
  slotsUsed := slotsUsed
  threads := #[{ frames := .invoking theMethod args0 :: below }]
def below0 : List Frame := [.native { method := ⟨0, 0⟩, args := #[] }]
def about1 : State := aboutOver below0
def p0 : Program := .bare "" "" ""
def e0 : Env := launch0.env 0 0 0
theorem w_frames : about1.frames = Frame.invoking theMethod args0 :: below0 := rfl
set_option maxRecDepth 65536 in
theorem w_args : argsFit about1.vm theMethod args0 = true := by decide +kernel
set_option maxRecDepth 65536 in
theorem w_heap : heapFits about1 = true := by decide +kernel
set_option maxRecDepth 65536 in
theorem w_runnable : about1.curStatus? = some .runnable := by decide +kernel
set_option maxRecDepth 65536 in
theorem w_alone : about1.alone = true := by decide +kernel
set_option maxRecDepth 65536 in
theorem w_named : about1.methodNamed? x = some theMethod := by decide +kernel
set_option maxRecDepth 65536 in
theorem w_hears : about1.hears theMethod below0 = true := by decide +kernel
set_option maxRecDepth 65536 in
theorem w_ripe : about1.ripe theMethod args0 below0 = true := by decide +kernel
theorem w_running : about1.status = .running := rfl
set_option maxRecDepth 65536 in
theorem w_room : about1.hasRoom e0.platform room_1 = true :=
  launch0.hasRoom_least _ room_1 (by decide +kernel) (by decide +kernel) (by decide +kernel) (by decide +kernel) (by decide +kernel) (by decide +kernel)
theorem allAtoms_all (ts : List Jvm.Cond) (a : Array Jvm.Value) (st : Jvm.State) : (allAtoms ts).before a st = ts.all (fun c => c.before a st) := by
  induction ts with
  | nil => rfl
  | cons c t ih =>
    show (Jvm.Cond.and c (allAtoms t)).before a st = _
    rw [Jvm.Cond.before_and, ih, List.all_cons]
def words1 : List Jvm.Cond := Jvm.Cond.code x code maxLocals ret :: tables_1
/-- a 'code' word, met by the world's own term for the bytes: nothing is compared byte by byte -/
theorem code_word {y : MethodName} {bytes : ByteArray} {mx : Nat} {rt : Option FieldType} {a : Array Value} {s : State} {m : MethodId} {meth : Method} {c : Code} (h1 : s.methodNamed? y = some m) (h2 : s.vm.method? m = some meth) (h3 : meth.code = some c) (h4 : c.code = bytes)
    (h5 : (c.maxLocals == mx && c.exceptionTable.isEmpty && decide (c.maxStack ≤ mostOperands) && decide (meth.sig.returnType = rt) && !meth.locks && decide (parseMethodDescriptor y.desc = some meth.sig)) = true) : (Jvm.Cond.code y bytes mx rt).before a s = true := by
  simp only [Bool.and_eq_true, beq_iff_eq, Bool.not_eq_true', decide_eq_true_eq] at h5
  obtain ⟨⟨⟨⟨⟨g1, g2⟩, g3⟩, g4⟩, g5⟩, g6⟩ := h5
  simp [Cond.before, Cond.holds, Cond.value, h1, h2, h3, h4, g1, g2, g3, g4, g5, g6]
def isCode : Jvm.Cond → Bool
  | .code _ _ _ _ => true
  | _ => false
theorem all_split {L : List Jvm.Cond} {P : Jvm.Cond → Bool} (h1 : L.all (fun c => isCode c || P c) = true) (h2 : ∀ c ∈ L.filter isCode, P c = true) : L.all P = true := by
  refine List.all_eq_true.mpr fun c hc => ?_
  have h := List.all_eq_true.mp h1 c hc
  rcases Bool.eq_false_or_eq_true (isCode c) with hi | hi
  · exact h2 c (List.mem_filter.mpr ⟨hc, hi⟩)
  · simpa [hi] using h
set_option maxRecDepth 65536 in
theorem w_c0 : (Jvm.Cond.code x code maxLocals ret).before args0 about1 = true := code_word (m := ⟨1, 1⟩) (meth := k1m1) (c := k1c1) (by decide +kernel) rfl rfl rfl (by decide +kernel)
set_option maxRecDepth 65536 in
theorem w_c1 : (Jvm.Cond.code ({ cls := "com/example/graupel/graupel/benchmark/CallTimeHistogram", name := "<init>", desc := "()V" } : Jvm.MethodName) prog_13_method_1_code (1 : Nat) (Option.none : Option Jvm.ClassFile.FieldType)).before args0 about1 = true := code_word (m := ⟨3, 0⟩) (meth := k3m0) (c := k3c0) (by decide +kernel) rfl rfl rfl (by decide +kernel)
set_option maxRecDepth 65536 in
theorem w_c2 : (Jvm.Cond.code ({ cls := "java/lang/Object", name := "<init>", desc := "()V" } : Jvm.MethodName) object_method_1_code (1 : Nat) (Option.none : Option Jvm.ClassFile.FieldType)).before args0 about1 = true := code_word (m := ⟨0, 0⟩) (meth := k0m0) (c := k0c0) (by decide +kernel) rfl rfl rfl (by decide +kernel)
set_option maxRecDepth 65536 in
theorem w_c3 : (Jvm.Cond.code ({ cls := "com/example/graupel/graupel/benchmark/CallTimeHistogram", name := "bucket", desc := "(J)I" } : Jvm.MethodName) prog_13_method_6_code (3 : Nat) (Option.some Jvm.ClassFile.FieldType.int)).before args0 about1 = true := code_word (m := ⟨3, 5⟩) (meth := k3m5) (c := k3c5) (by decide +kernel) rfl rfl rfl (by decide +kernel)
set_option maxRecDepth 65536 in
theorem w_c4 : (Jvm.Cond.code ({ cls := "java/lang/Long", name := "numberOfLeadingZeros", desc := "(J)I" } : Jvm.MethodName) jdk_35_method_48_code (3 : Nat) (Option.some Jvm.ClassFile.FieldType.int)).before args0 about1 = true := code_word (m := ⟨8, 0⟩) (meth := k8m0) (c := k8c0) (by decide +kernel) rfl rfl rfl (by decide +kernel)
set_option maxRecDepth 65536 in
theorem w_c5 : (Jvm.Cond.code ({ cls := "java/lang/Integer", name := "numberOfLeadingZeros", desc := "(I)I" } : Jvm.MethodName) jdk_33_method_47_code (2 : Nat) (Option.some Jvm.ClassFile.FieldType.int)).before args0 about1 = true := code_word (m := ⟨9, 0⟩) (meth := k9m0) (c := k9c0) (by decide +kernel) rfl rfl rfl (by decide +kernel)
set_option maxRecDepth 65536 in
theorem w_c6 : (Jvm.Cond.code ({ cls := "com/example/graupel/graupel/benchmark/CallTimeHistogram", name := "add", desc := "(Lcom/example/graupel/graupel/benchmark/CallTimeHistogram;)V" } : Jvm.MethodName) prog_13_method_3_code (3 : Nat) (Option.none : Option Jvm.ClassFile.FieldType)).before args0 about1 = true := code_word (m := ⟨3, 2⟩) (meth := k3m2) (c := k3c2) (by decide +kernel) rfl rfl rfl (by decide +kernel)
set_option maxRecDepth 65536 in
theorem w_c7 : (Jvm.Cond.code ({ cls := "com/example/graupel/graupel/benchmark/CallTimeHistogram", name := "count", desc := "()J" } : Jvm.MethodName) prog_13_method_4_code (1 : Nat) (Option.some Jvm.ClassFile.FieldType.long)).before args0 about1 = true := code_word (m := ⟨3, 3⟩) (meth := k3m3) (c := k3c3) (by decide +kernel) rfl rfl rfl (by decide +kernel)
set_option maxRecDepth 65536 in
theorem w_c8 : (Jvm.Cond.code ({ cls := "com/example/graupel/graupel/benchmark/CallTimeHistogram", name := "record", desc := "(J)V" } : Jvm.MethodName) prog_13_method_2_code (3 : Nat) (Option.none : Option Jvm.ClassFile.FieldType)).before args0 about1 = true := code_word (m := ⟨3, 1⟩) (meth := k3m1) (c := k3c1) (by decide +kernel) rfl rfl rfl (by decide +kernel)
set_option maxRecDepth 65536 in
theorem w_c9 : (Jvm.Cond.code ({ cls := "com/example/graupel/graupel/benchmark/CallTimeHistogram", name := "quantile", desc := "(JJ)J" } : Jvm.MethodName) prog_13_method_5_code (10 : Nat) (Option.some Jvm.ClassFile.FieldType.long)).before args0 about1 = true := code_word (m := ⟨3, 4⟩) (meth := k3m4) (c := k3c4) (by decide +kernel) rfl rfl rfl (by decide +kernel)
set_option maxRecDepth 65536 in
theorem w_c10 : (Jvm.Cond.code ({ cls := "java/lang/Math", name := "multiplyExact", desc := "(JJ)J" } : Jvm.MethodName) jdk_29_method_30_code (10 : Nat) (Option.some Jvm.ClassFile.FieldType.long)).before args0 about1 = true := code_word (m := ⟨10, 1⟩) (meth := k10m1) (c := k10c1) (by decide +kernel) rfl rfl rfl (by decide +kernel)
set_option maxRecDepth 65536 in
theorem w_c11 : (Jvm.Cond.code ({ cls := "java/lang/Math", name := "abs", desc := "(J)J" } : Jvm.MethodName) jdk_29_method_61_code (2 : Nat) (Option.some Jvm.ClassFile.FieldType.long)).before args0 about1 = true := code_word (m := ⟨10, 2⟩) (meth := k10m2) (c := k10c2) (by decide +kernel) rfl rfl rfl (by decide +kernel)
set_option maxRecDepth 65536 in
theorem w_c12 : (Jvm.Cond.code ({ cls := "com/example/graupel/graupel/benchmark/CallTimeHistogram", name := "highest", desc := "(I)J" } : Jvm.MethodName) prog_13_method_7_code (4 : Nat) (Option.some Jvm.ClassFile.FieldType.long)).before args0 about1 = true := code_word (m := ⟨3, 6⟩) (meth := k3m6) (c := k3c6) (by decide +kernel) rfl rfl rfl (by decide +kernel)
def codes1 : List Jvm.Cond := [Jvm.Cond.code x code maxLocals ret, Jvm.Cond.code ({ cls := "com/example/graupel/graupel/benchmark/CallTimeHistogram", name := "<init>", desc := "()V" } : Jvm.MethodName) prog_13_method_1_code (1 : Nat) (Option.none : Option Jvm.ClassFile.FieldType), Jvm.Cond.code ({ cls := "java/lang/Object", name := "<init>", desc := "()V" } : Jvm.MethodName) object_method_1_code (1 : Nat) (Option.none : Option Jvm.ClassFile.FieldType), Jvm.Cond.code ({ cls := "com/example/graupel/graupel/benchmark/CallTimeHistogram", name := "bucket", desc := "(J)I" } : Jvm.MethodName) prog_13_method_6_code (3 : Nat) (Option.some Jvm.ClassFile.FieldType.int), Jvm.Cond.code ({ cls := "java/lang/Long", name := "numberOfLeadingZeros", desc := "(J)I" } : Jvm.MethodName) jdk_35_method_48_code (3 : Nat) (Option.some Jvm.ClassFile.FieldType.int), Jvm.Cond.code ({ cls := "java/lang/Integer", name := "numberOfLeadingZeros", desc := "(I)I" } : Jvm.MethodName) jdk_33_method_47_code (2 : Nat) (Option.some Jvm.ClassFile.FieldType.int), Jvm.Cond.code ({ cls := "com/example/graupel/graupel/benchmark/CallTimeHistogram", name := "add", desc := "(Lcom/example/graupel/graupel/benchmark/CallTimeHistogram;)V" } : Jvm.MethodName) prog_13_method_3_code (3 : Nat) (Option.none : Option Jvm.ClassFile.FieldType), Jvm.Cond.code ({ cls := "com/example/graupel/graupel/benchmark/CallTimeHistogram", name := "count", desc := "()J" } : Jvm.MethodName) prog_13_method_4_code (1 : Nat) (Option.some Jvm.ClassFile.FieldType.long), Jvm.Cond.code ({ cls := "com/example/graupel/graupel/benchmark/CallTimeHistogram", name := "record", desc := "(J)V" } : Jvm.MethodName) prog_13_method_2_code (3 : Nat) (Option.none : Option Jvm.ClassFile.FieldType), Jvm.Cond.code ({ cls := "com/example/graupel/graupel/benchmark/CallTimeHistogram", name := "quantile", desc := "(JJ)J" } : Jvm.MethodName) prog_13_method_5_code (10 : Nat) (Option.some Jvm.ClassFile.FieldType.long), Jvm.Cond.code ({ cls := "java/lang/Math", name := "multiplyExact", desc := "(JJ)J" } : Jvm.MethodName) jdk_29_method_30_code (10 : Nat) (Option.some Jvm.ClassFile.FieldType.long), Jvm.Cond.code ({ cls := "java/lang/Math", name := "abs", desc := "(J)J" } : Jvm.MethodName) jdk_29_method_61_code (2 : Nat) (Option.some Jvm.ClassFile.FieldType.long), Jvm.Cond.code ({ cls := "com/example/graupel/graupel/benchmark/CallTimeHistogram", name := "highest", desc := "(I)J" } : Jvm.MethodName) prog_13_method_7_code (4 : Nat) (Option.some Jvm.ClassFile.FieldType.long)]
set_option maxRecDepth 65536 in
theorem codes_eq : words1.filter isCode = codes1 := rfl
theorem w_codes : ∀ c ∈ words1.filter isCode, c.before args0 about1 = true := by
  rw [codes_eq]
  intro c hc
  simp only [codes1, List.mem_cons, List.not_mem_nil, or_false] at hc
  rcases hc with rfl | rfl | rfl | rfl | rfl | rfl | rfl | rfl | rfl | rfl | rfl | rfl | rfl
  · exact w_c0
  · exact w_c1
  · exact w_c2
  · exact w_c3
  · exact w_c4
  · exact w_c5
  · exact w_c6
  · exact w_c7
  · exact w_c8
  · exact w_c9
  · exact w_c10
  · exact w_c11
  · exact w_c12
set_option maxRecDepth 65536 in
theorem w_t1 : (words1.take 24).all (fun c => isCode c || c.before args0 about1) = true := by decide +kernel
set_option maxRecDepth 65536 in
theorem w_t2 : ((words1.drop 24).take 24).all (fun c => isCode c || c.before args0 about1) = true := by decide +kernel
set_option maxRecDepth 65536 in
theorem w_t3 : ((words1.drop 24).drop 24).all (fun c => isCode c || c.before args0 about1) = true := by decide +kernel
theorem w_tables : (allAtoms (Jvm.Cond.code x code maxLocals ret :: tables_1)).before args0 about1 = true := by
  rw [allAtoms_all]
  show words1.all (fun c => c.before args0 about1) = true
  refine all_split ?_ w_codes
  rw [← List.take_append_drop 24 words1, List.all_append, w_t1, ← List.take_append_drop 24 (words1.drop 24), List.all_append, w_t2, w_t3]
  rfl
set_option maxRecDepth 65536 in
theorem w_case : (Jvm.Cond.and given_1 narrow_1).before args0 about1 = true := by decide +kernel
theorem w_applies : (headSpec (Jvm.Cond.code x code maxLocals ret :: tables_1) room_1).applies x e0.platform about1 = true :=
  (Spec.applies_iff w_frames).mpr ⟨w_running, w_runnable, w_alone, w_named, w_hears, w_ripe, w_room, w_tables⟩
theorem atStart : AtStart classFile x code maxLocals ret World_1 tables_1 room_1 Calls_1 rest_1 Pre_1 launch0 p0 e0 about1 theMethod args0 below0 :=
  ⟨lists_1, trivial, launch0.admits_env _ _ _, launch0.least_env, fairChoices_fair.cas, fairChoices_fair.clock, w_frames, w_args, w_heap, w_applies, trivial, trivial, w_case⟩
end start1
theorem witness_1 : WitnessClaimed_1 := ⟨start1.p0, start1.e0, start1.about1, start1.theMethod, start1.args0, start1.below0, start1.atStart⟩
end Jvm.Pilot.@@N@@
